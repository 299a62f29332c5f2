import JvmDerived
import JvmDerived.Pilot.@@N@@Statement
import JvmDerived.Pilot.@@N@@Code
set_option linter.unusedVariables false
set_option linter.unusedSimpArgs false
namespace Jvm.RoadKit
open Sem ClassFile Op Lib Jvm.Stand Jvm.Free Jvm.LawKit
section New
variable {p : Program} {l : Launch} {e : Env} {R : Room} {s : State} {m : MethodId} {args : Array Value} {below : List Frame} {meth : Method} {c : Code} {T : State} {locs : List Loc} {cells slots : Nat}
theorem retI (X : Stand p l e R s m args below meth c T locs cells slots) (hx : p.tables.exec = Jvm.exec) {pc : Nat} {Ls : Array Slot} {z : Int32} {rest : List Value} (hret : meth.sig.returnType = some .int) (hd : decode c.code pc = .ok (.ireturn, 1)) {fs : List Frame}
    (hl : ∀ (f : JFrame) (acts : List Action), f.method = m → f.locked = none → f.entered = [] → (doReturn e (T.setTop f) acts (some (.int z))).1 = T.setFrames fs) : Steps p.tables e below (T.setTop (mkF m pc Ls (.int z :: rest))) (T.setFrames fs) := by
  have hm' : T.vm.method? m = some meth := X.method'
  have hn : narrow .int (.int z) = .int z := rfl
  show Steps p.tables e below (T.setTop { method := m, pc := pc, locals := Ls, stack := _ :: rest, locked := none }) _
  jvm_step X.here [X.here.top, hx, hd, hm', hret, hn]
  first | (intro acts; rw [hl _ acts rfl rfl rfl]) | rw [hl _ _ rfl rfl rfl]
  exact Steps.refl _
end New
end Jvm.RoadKit
namespace Jvm.Pilot.@@N@@
open Jvm Jvm.ClassFile Sem Op Lib Jvm.Free Jvm.Stand Jvm.LawKit Jvm.RoadKit Bundle Jvm.Pilot.@@N@@.Jvm.D
def QT (n0 : Nat) (v : Option Value) (h : Heap) (L : List Loc) : Prop := v = some (.int 1) ∧ Fr n0 L
def QP (r : Option Value) (h0 : Heap) (n0 : Nat) (v : Option Value) (h : Heap) (L : List Loc) : Prop := v = r ∧ Fr n0 L ∧ h = h0
theorem own_fld {Z : State} {args : Array Value} {t : Term} {C n d : String} {a : Addr} {i : Int32} (ev : t.eval args Z none [] Z = some (.ref a)) (h : (Cond.eq (Term.field t C n d) (Term.int i)).value args Z none Z [] = some true) : Fld Z Z.heap a C n d (.int i) := by
  have e := fld_at (C := C) (n := n) (dd := d) ev
  refine Fld.start ?_
  obtain ⟨x, y, h1, h2, k1, k2⟩ := cmp_v (Or.inl h)
  have h3 : y = .int i := (Option.some.inj ((Term.int_eval i).symm.trans h2)).symm
  subst h3
  obtain ⟨z, rfl⟩ := k2
  have q : z = i := by simpa [Cond.value, h1, h2] using h
  rw [← e, h1, q]
theorem own_fldn {Z : State} {args : Array Value} {t : Term} {C n d : String} {a : Addr} (ev : t.eval args Z none [] Z = some (.ref a)) (h : (Cond.eq (Term.field t C n d) Term.null).value args Z none Z [] = some true) : Fld Z Z.heap a C n d .null := Fld.start ((fld_at ev).symm.trans (null_v h))
theorem own_sti {Z : State} {args : Array Value} {C n d : String} {i : Int32} (h : (Cond.eq (Term.static C n d) (Term.int i)).value args Z none Z [] = some true) : (Term.static C n d).eval args Z none [] Z = some (.int i) := by
  obtain ⟨x, y, h1, h2, k1, k2⟩ := cmp_v (Or.inl h)
  have h3 : y = .int i := (Option.some.inj ((Term.int_eval i).symm.trans h2)).symm
  subst h3
  obtain ⟨z, rfl⟩ := k2
  have q : z = i := by simpa [Cond.value, h1, h2] using h
  rw [h1, q]
theorem own_sta_keep {Z : State} {h h' : Heap} {C n d : String} {v : Value} {ws : List Addr} (F : Sta Z h C n d v) (K : Keep h h' ws) (q : ∀ x ∈ ws, ∀ c : Cell, h[x]? = some c → c.vm.isStatics = false) : Sta Z h' C n d v := by
  obtain ⟨cf, i, k, f, st, cell, h1, h2, h3, h4, h5, h6, h7⟩ := F
  have ne : st ∉ ws := fun z => by rw [q st z cell h5] at h6; cases h6
  exact ⟨cf, i, k, f, st, cell, h1, h2, h3, h4, K.2.1 st cell h5 ne, h6, h7⟩
theorem own_ns {h : Heap} {x : Addr} {ws : List Addr} (p : ∀ c : Cell, h[x]? = some c → c.vm.isStatics = false) (q : ∀ y ∈ ws, ∀ c : Cell, h[y]? = some c → c.vm.isStatics = false) : ∀ y ∈ x :: ws, ∀ c : Cell, h[y]? = some c → c.vm.isStatics = false := fun y hy => (List.mem_cons.mp hy).elim (fun e => e ▸ p) (q y)
theorem own_notin {a x : Addr} {ws : List Addr} (p : a ≠ x) (q : a ∉ ws) : a ∉ x :: ws := fun h => (List.mem_cons.mp h).elim p q
theorem own_and3 (x : Int32) : (x &&& (3 : Int32)) = (0 : Int32) ∨ (x &&& (3 : Int32)) = (1 : Int32) ∨ (x &&& (3 : Int32)) = (2 : Int32) ∨ (x &&& (3 : Int32)) = (3 : Int32) := by
  have h := c_and x (3 : Int32) (by decide)
  have e : (3 : Int32).toInt = 3 := by decide
  have e0 : (0 : Int32).toInt = 0 := by decide
  have e1 : (1 : Int32).toInt = 1 := by decide
  have e2 : (2 : Int32).toInt = 2 := by decide
  have e3 : (3 : Int32).toInt = 3 := by decide
  simp only [← Int32.toInt_inj, e0, e1, e2, e3]
  omega
theorem tw_1 {a0 : Array Value} {Z : State} (hw : ∀ d ∈ tables_1, d.before a0 Z = true) : (Jvm.Cond.initialized "com/example/corestone/corestone/BulkRequest$Status").before a0 Z = true := hw _ (List.mem_of_getElem? (i := 1) rfl)
theorem tw_2 {a0 : Array Value} {Z : State} (hw : ∀ d ∈ tables_1, d.before a0 Z = true) : (Jvm.Cond.laysStatic "com/example/corestone/corestone/BulkRequest$Status" "QUEUED" "Lcom/example/corestone/corestone/BulkRequest$Status;").before a0 Z = true := hw _ (List.mem_of_getElem? (i := 2) rfl)
abbrev S_0 (Z : State) (h : Heap) (v : Value) : Prop := Sta Z h "com/example/corestone/corestone/BulkRequest$Status" "QUEUED" "Lcom/example/corestone/corestone/BulkRequest$Status;" v
abbrev E_0 (Z : State) (h : Heap) (a : Addr) : Prop := Exa Z h a "com/example/corestone/corestone/BulkRequest$Status"
theorem tw_45 {a0 : Array Value} {Z : State} (hw : ∀ d ∈ tables_1, d.before a0 Z = true) : (Jvm.Cond.laysStatic "com/example/corestone/corestone/BulkRequest$Status" "RUNNING" "Lcom/example/corestone/corestone/BulkRequest$Status;").before a0 Z = true := hw _ (List.mem_of_getElem? (i := 45) rfl)
abbrev S_1 (Z : State) (h : Heap) (v : Value) : Prop := Sta Z h "com/example/corestone/corestone/BulkRequest$Status" "RUNNING" "Lcom/example/corestone/corestone/BulkRequest$Status;" v
theorem tw_52 {a0 : Array Value} {Z : State} (hw : ∀ d ∈ tables_1, d.before a0 Z = true) : (Jvm.Cond.laysStatic "com/example/corestone/corestone/BulkRequest$Status" "COMPLETED" "Lcom/example/corestone/corestone/BulkRequest$Status;").before a0 Z = true := hw _ (List.mem_of_getElem? (i := 52) rfl)
abbrev S_2 (Z : State) (h : Heap) (v : Value) : Prop := Sta Z h "com/example/corestone/corestone/BulkRequest$Status" "COMPLETED" "Lcom/example/corestone/corestone/BulkRequest$Status;" v
theorem tw_60 {a0 : Array Value} {Z : State} (hw : ∀ d ∈ tables_1, d.before a0 Z = true) : (Jvm.Cond.laysStatic "com/example/corestone/corestone/BulkRequest$Status" "FAILED" "Lcom/example/corestone/corestone/BulkRequest$Status;").before a0 Z = true := hw _ (List.mem_of_getElem? (i := 60) rfl)
abbrev S_3 (Z : State) (h : Heap) (v : Value) : Prop := Sta Z h "com/example/corestone/corestone/BulkRequest$Status" "FAILED" "Lcom/example/corestone/corestone/BulkRequest$Status;" v
abbrev F_0 (Z : State) (h : Heap) (a : Addr) (v : Value) : Prop := Fld Z h a "java/lang/Enum" "ordinal" "I" v
theorem tw_0 {a0 : Array Value} {Z : State} (hw : ∀ d ∈ tables_1, d.before a0 Z = true) : (Jvm.Cond.fieldLink "com/example/corestone/corestone/StatusEndedPinLaw" (7 : Nat) "com/example/corestone/corestone/BulkRequest$Status" "QUEUED" "Lcom/example/corestone/corestone/BulkRequest$Status;").before a0 Z = true := hw _ (List.mem_of_getElem? (i := 0) rfl)
theorem tw_3 {a0 : Array Value} {Z : State} (hw : ∀ d ∈ tables_1, d.before a0 Z = true) : (Jvm.Cond.methodLink "com/example/corestone/corestone/StatusEndedPinLaw" (22 : Nat) ({ cls := "com/example/corestone/corestone/BulkRequest", name := "queued", desc := "(Ljava/lang/String;Ljava/lang/String;ILjava/time/Instant;)Lcom/example/corestone/corestone/BulkRequest;" } : Jvm.MethodName)).before a0 Z = true := hw _ (List.mem_of_getElem? (i := 3) rfl)
theorem tw_6 {a0 : Array Value} {Z : State} (hw : ∀ d ∈ tables_1, d.before a0 Z = true) : (Jvm.Cond.code ({ cls := "com/example/corestone/corestone/BulkRequest", name := "queued", desc := "(Ljava/lang/String;Ljava/lang/String;ILjava/time/Instant;)Lcom/example/corestone/corestone/BulkRequest;" } : Jvm.MethodName) prog_2_method_2_code (4 : Nat) (Option.some (Jvm.ClassFile.FieldType.object "com/example/corestone/corestone/BulkRequest"))).before a0 Z = true := hw _ (List.mem_of_getElem? (i := 6) rfl)
theorem d1_0 : decode prog_2_method_2_code 0 = .ok (.new 8, 3) := by decide +kernel
theorem tw_7 {a0 : Array Value} {Z : State} (hw : ∀ d ∈ tables_1, d.before a0 Z = true) : (Jvm.Cond.classLink "com/example/corestone/corestone/BulkRequest" (8 : Nat) "com/example/corestone/corestone/BulkRequest").before a0 Z = true := hw _ (List.mem_of_getElem? (i := 7) rfl)
theorem tw_8 {a0 : Array Value} {Z : State} (hw : ∀ d ∈ tables_1, d.before a0 Z = true) : (Jvm.Cond.instantiable "com/example/corestone/corestone/BulkRequest" (9 : Nat)).before a0 Z = true := hw _ (List.mem_of_getElem? (i := 8) rfl)
theorem tw_5 {a0 : Array Value} {Z : State} (hw : ∀ d ∈ tables_1, d.before a0 Z = true) : (Jvm.Cond.initialized "com/example/corestone/corestone/BulkRequest").before a0 Z = true := hw _ (List.mem_of_getElem? (i := 5) rfl)
abbrev E_1 (Z : State) (h : Heap) (a : Addr) : Prop := Exa Z h a "com/example/corestone/corestone/BulkRequest"
abbrev F_1 (Z : State) (h : Heap) (a : Addr) (v : Value) : Prop := Fld Z h a "com/example/corestone/corestone/BulkRequest" "id" "Ljava/lang/String;" v
theorem tw_22 {a0 : Array Value} {Z : State} (hw : ∀ d ∈ tables_1, d.before a0 Z = true) : (Jvm.Cond.laysFinal "com/example/corestone/corestone/BulkRequest" "com/example/corestone/corestone/BulkRequest" "id" "Ljava/lang/String;").before a0 Z = true := hw _ (List.mem_of_getElem? (i := 22) rfl)
abbrev F_2 (Z : State) (h : Heap) (a : Addr) (v : Value) : Prop := Fld Z h a "com/example/corestone/corestone/BulkRequest" "owner" "Ljava/lang/String;" v
theorem tw_24 {a0 : Array Value} {Z : State} (hw : ∀ d ∈ tables_1, d.before a0 Z = true) : (Jvm.Cond.laysFinal "com/example/corestone/corestone/BulkRequest" "com/example/corestone/corestone/BulkRequest" "owner" "Ljava/lang/String;").before a0 Z = true := hw _ (List.mem_of_getElem? (i := 24) rfl)
abbrev F_3 (Z : State) (h : Heap) (a : Addr) (v : Value) : Prop := Fld Z h a "com/example/corestone/corestone/BulkRequest" "status" "Lcom/example/corestone/corestone/BulkRequest$Status;" v
theorem tw_26 {a0 : Array Value} {Z : State} (hw : ∀ d ∈ tables_1, d.before a0 Z = true) : (Jvm.Cond.laysFinal "com/example/corestone/corestone/BulkRequest" "com/example/corestone/corestone/BulkRequest" "status" "Lcom/example/corestone/corestone/BulkRequest$Status;").before a0 Z = true := hw _ (List.mem_of_getElem? (i := 26) rfl)
abbrev F_4 (Z : State) (h : Heap) (a : Addr) (v : Value) : Prop := Fld Z h a "com/example/corestone/corestone/BulkRequest" "createdAt" "Ljava/time/Instant;" v
theorem tw_28 {a0 : Array Value} {Z : State} (hw : ∀ d ∈ tables_1, d.before a0 Z = true) : (Jvm.Cond.laysFinal "com/example/corestone/corestone/BulkRequest" "com/example/corestone/corestone/BulkRequest" "createdAt" "Ljava/time/Instant;").before a0 Z = true := hw _ (List.mem_of_getElem? (i := 28) rfl)
abbrev F_5 (Z : State) (h : Heap) (a : Addr) (v : Value) : Prop := Fld Z h a "com/example/corestone/corestone/BulkRequest" "updatedAt" "Ljava/time/Instant;" v
theorem tw_30 {a0 : Array Value} {Z : State} (hw : ∀ d ∈ tables_1, d.before a0 Z = true) : (Jvm.Cond.laysFinal "com/example/corestone/corestone/BulkRequest" "com/example/corestone/corestone/BulkRequest" "updatedAt" "Ljava/time/Instant;").before a0 Z = true := hw _ (List.mem_of_getElem? (i := 30) rfl)
abbrev F_6 (Z : State) (h : Heap) (a : Addr) (v : Value) : Prop := Fld Z h a "com/example/corestone/corestone/BulkRequest" "received" "I" v
theorem tw_32 {a0 : Array Value} {Z : State} (hw : ∀ d ∈ tables_1, d.before a0 Z = true) : (Jvm.Cond.laysFinal "com/example/corestone/corestone/BulkRequest" "com/example/corestone/corestone/BulkRequest" "received" "I").before a0 Z = true := hw _ (List.mem_of_getElem? (i := 32) rfl)
abbrev F_7 (Z : State) (h : Heap) (a : Addr) (v : Value) : Prop := Fld Z h a "com/example/corestone/corestone/BulkRequest" "created" "I" v
theorem tw_34 {a0 : Array Value} {Z : State} (hw : ∀ d ∈ tables_1, d.before a0 Z = true) : (Jvm.Cond.laysFinal "com/example/corestone/corestone/BulkRequest" "com/example/corestone/corestone/BulkRequest" "created" "I").before a0 Z = true := hw _ (List.mem_of_getElem? (i := 34) rfl)
abbrev F_8 (Z : State) (h : Heap) (a : Addr) (v : Value) : Prop := Fld Z h a "com/example/corestone/corestone/BulkRequest" "updated" "I" v
theorem tw_36 {a0 : Array Value} {Z : State} (hw : ∀ d ∈ tables_1, d.before a0 Z = true) : (Jvm.Cond.laysFinal "com/example/corestone/corestone/BulkRequest" "com/example/corestone/corestone/BulkRequest" "updated" "I").before a0 Z = true := hw _ (List.mem_of_getElem? (i := 36) rfl)
abbrev F_9 (Z : State) (h : Heap) (a : Addr) (v : Value) : Prop := Fld Z h a "com/example/corestone/corestone/BulkRequest" "refused" "I" v
theorem tw_38 {a0 : Array Value} {Z : State} (hw : ∀ d ∈ tables_1, d.before a0 Z = true) : (Jvm.Cond.laysFinal "com/example/corestone/corestone/BulkRequest" "com/example/corestone/corestone/BulkRequest" "refused" "I").before a0 Z = true := hw _ (List.mem_of_getElem? (i := 38) rfl)
theorem d1_3 : decode prog_2_method_2_code 3 = .ok (.dup, 1) := by decide +kernel
theorem d1_4 : decode prog_2_method_2_code 4 = .ok (.aload_n 0, 1) := by decide +kernel
theorem d1_5 : decode prog_2_method_2_code 5 = .ok (.aload_n 1, 1) := by decide +kernel
theorem d1_6 : decode prog_2_method_2_code 6 = .ok (.getstatic 40, 3) := by decide +kernel
theorem tw_9 {a0 : Array Value} {Z : State} (hw : ∀ d ∈ tables_1, d.before a0 Z = true) : (Jvm.Cond.fieldLink "com/example/corestone/corestone/BulkRequest" (40 : Nat) "com/example/corestone/corestone/BulkRequest$Status" "QUEUED" "Lcom/example/corestone/corestone/BulkRequest$Status;").before a0 Z = true := hw _ (List.mem_of_getElem? (i := 9) rfl)
theorem d1_9 : decode prog_2_method_2_code 9 = .ok (.aload_n 3, 1) := by decide +kernel
theorem d1_10 : decode prog_2_method_2_code 10 = .ok (.aload_n 3, 1) := by decide +kernel
theorem d1_11 : decode prog_2_method_2_code 11 = .ok (.iload_n 2, 1) := by decide +kernel
theorem d1_12 : decode prog_2_method_2_code 12 = .ok (.iconst 0, 1) := by decide +kernel
theorem d1_13 : decode prog_2_method_2_code 13 = .ok (.iconst 0, 1) := by decide +kernel
theorem d1_14 : decode prog_2_method_2_code 14 = .ok (.iconst 0, 1) := by decide +kernel
theorem d1_15 : decode prog_2_method_2_code 15 = .ok (.invokespecial 45, 3) := by decide +kernel
theorem tw_10 {a0 : Array Value} {Z : State} (hw : ∀ d ∈ tables_1, d.before a0 Z = true) : (Jvm.Cond.methodLink "com/example/corestone/corestone/BulkRequest" (45 : Nat) ({ cls := "com/example/corestone/corestone/BulkRequest", name := "<init>", desc := "(Ljava/lang/String;Ljava/lang/String;Lcom/example/corestone/corestone/BulkRequest$Status;Ljava/time/Instant;Ljava/time/Instant;IIII)V" } : Jvm.MethodName)).before a0 Z = true := hw _ (List.mem_of_getElem? (i := 10) rfl)
theorem tw_12 {a0 : Array Value} {Z : State} (hw : ∀ d ∈ tables_1, d.before a0 Z = true) : (Jvm.Cond.code ({ cls := "com/example/corestone/corestone/BulkRequest", name := "<init>", desc := "(Ljava/lang/String;Ljava/lang/String;Lcom/example/corestone/corestone/BulkRequest$Status;Ljava/time/Instant;Ljava/time/Instant;IIII)V" } : Jvm.MethodName) prog_2_method_1_code (10 : Nat) (Option.none : Option Jvm.ClassFile.FieldType)).before a0 Z = true := hw _ (List.mem_of_getElem? (i := 12) rfl)
theorem d2_0 : decode prog_2_method_1_code 0 = .ok (.aload_n 0, 1) := by decide +kernel
theorem d2_1 : decode prog_2_method_1_code 1 = .ok (.invokespecial 1, 3) := by decide +kernel
theorem tw_13 {a0 : Array Value} {Z : State} (hw : ∀ d ∈ tables_1, d.before a0 Z = true) : (Jvm.Cond.methodLink "com/example/corestone/corestone/BulkRequest" (1 : Nat) ({ cls := "java/lang/Record", name := "<init>", desc := "()V" } : Jvm.MethodName)).before a0 Z = true := hw _ (List.mem_of_getElem? (i := 13) rfl)
theorem tw_17 {a0 : Array Value} {Z : State} (hw : ∀ d ∈ tables_1, d.before a0 Z = true) : (Jvm.Cond.code ({ cls := "java/lang/Record", name := "<init>", desc := "()V" } : Jvm.MethodName) jdk_30_method_1_code (1 : Nat) (Option.none : Option Jvm.ClassFile.FieldType)).before a0 Z = true := hw _ (List.mem_of_getElem? (i := 17) rfl)
theorem d3_0 : decode jdk_30_method_1_code 0 = .ok (.aload_n 0, 1) := by decide +kernel
theorem d3_1 : decode jdk_30_method_1_code 1 = .ok (.invokespecial 1, 3) := by decide +kernel
theorem tw_18 {a0 : Array Value} {Z : State} (hw : ∀ d ∈ tables_1, d.before a0 Z = true) : (Jvm.Cond.methodLink "java/lang/Record" (1 : Nat) ({ cls := "java/lang/Object", name := "<init>", desc := "()V" } : Jvm.MethodName)).before a0 Z = true := hw _ (List.mem_of_getElem? (i := 18) rfl)
theorem tw_20 {a0 : Array Value} {Z : State} (hw : ∀ d ∈ tables_1, d.before a0 Z = true) : (Jvm.Cond.code ({ cls := "java/lang/Object", name := "<init>", desc := "()V" } : Jvm.MethodName) object_method_1_code (1 : Nat) (Option.none : Option Jvm.ClassFile.FieldType)).before a0 Z = true := hw _ (List.mem_of_getElem? (i := 20) rfl)
theorem tw_19 {a0 : Array Value} {Z : State} (hw : ∀ d ∈ tables_1, d.before a0 Z = true) : (Jvm.Cond.instanceMethod ({ cls := "java/lang/Object", name := "<init>", desc := "()V" } : Jvm.MethodName)).before a0 Z = true := hw _ (List.mem_of_getElem? (i := 19) rfl)
theorem d3_4 : decode jdk_30_method_1_code 4 = .ok (.return_, 1) := by decide +kernel
abbrev R_1_0_0_12 : Room := { frames := 1, cells := 0, slots := 0, locals := 12 }
abbrev M_0 : MethodName := ⟨"java/lang/Record", "<init>", "()V"⟩
theorem ef3_R (m : MethodId) (x0 : Addr) : entryFrame m #[(.ref x0)] 1 = mkF m 0 #[.val (.ref x0)] [] := by first | (simp [entryFrame, mkF, argsToLocals, Value.category]; done) | rfl
theorem pn_java_lang_Record : plainName "java/lang/Record" = true := by first | (simp [plainName, overriddenIn]; done) | decide +kernel
set_option maxRecDepth 65536 in
set_option maxHeartbeats 40000000 in
theorem rm3_16 (l : Launch) (Z : State) (a0 : Array Value) (hw : ∀ d ∈ tables_1, d.before a0 Z = true) (ws : List Jvm.Cond) (c0_a : Addr) (h0 : Heap) (n0 : Nat) (Z0 : n0 ≤ h0.size) :
    MetFree l M_0 (head1 (Jvm.Cond.code M_0 jdk_30_method_1_code 1 none :: ws) R_1_0_0_12) (fun a U => a = #[(.ref c0_a)] ∧ Z.Warmed39 U.vm ∧ U.heap = h0) (fun _ _ _ _ _ => True) (fun _ U o U' => ∃ v L, o = .returned v ∧ QP none h0 n0 v U'.heap L ∧ FrameEnd U o U' L R_1_0_0_12.cells R_1_0_0_12.slots) := by
  refine MetFree.of_bodySF (plainFor_of_name pn_java_lang_Record) hisR ?_
  intro p e s m args below meth c s₁ Bd hml0 hP hK
  obtain ⟨rfl, hZ, hh⟩ := hP
  have hx := Bd.exec
  have hby := Bd.bytes
  have hml : c.maxLocals = 1 := hml0
  have hown : s.vm.findClass "java/lang/Record" = some m.cls := findClass_of_methodNamed Bd.named
  have hnm := (name_of_methodNamed Bd.named Bd.method).1
  have X0 : Stand p l e R_1_0_0_12 s m #[(.ref c0_a)] below meth c s₁ [] 0 0 := Stand.of_body Bd
  have e0 : s₁.heap = h0 := by rw [← hh, Bd.state]; rfl
  have N0 := Fr.nil n0
  obtain ⟨T1, X1, e1, st1⟩ := initO X0 hx hZ hown (tw_18 hw) (tw_19 hw) (tw_20 hw) e0 (g := (mkF m 1 #[.val (.ref c0_a)] [(.ref c0_a)])) rfl (by rw [hml]; rfl) rfl (hb hby d3_1) (by decide) (W := 0) (by show 2 * 0 + _ ≤ _; exact Nat.le_of_eq rfl) (by decide)
  obtain ⟨fs, hr, hrun, hended, hW, hsame⟩ := X1.leave (v := none) (fun _ => rfl)
  refine ⟨_, _, castTop (ef3_R m c0_a) ?_, hrun, hended, _, _, rfl, ?_, ⟨_, rfl⟩, hW, hsame.mono (by decide) (by decide)⟩
  · show Steps p.tables e below (s₁.setTop (mkF m 0 #[.val (.ref c0_a)] [])) _
    refine XS.aloadN X0.here hx rfl (hb hby d3_0) rfl rfl ?_
    show Steps p.tables e below (s₁.setTop (mkF m 1 #[.val (.ref c0_a)] [(.ref c0_a)])) _
    refine st1 _ ?_
    show Steps p.tables e below (T1.setTop (mkF m 4 #[.val (.ref c0_a)] [])) _
    exact X1.returnOut hx Bd.returns (hb hby d3_4) hr
  · show QP none h0 n0 _ T1.heap _
    rw [e1]
    exact ⟨rfl, N0, rfl⟩
theorem tw_16 {a0 : Array Value} {Z : State} (hw : ∀ d ∈ tables_1, d.before a0 Z = true) : (Jvm.Cond.initialized "java/lang/Record").before a0 Z = true := hw _ (List.mem_of_getElem? (i := 16) rfl)
theorem pd_0 : parseMethodDescriptor "()V" = some ⟨[], none⟩ := by decide +kernel
theorem tw_14 {a0 : Array Value} {Z : State} (hw : ∀ d ∈ tables_1, d.before a0 Z = true) : (Jvm.Cond.instanceMethod ({ cls := "java/lang/Record", name := "<init>", desc := "()V" } : Jvm.MethodName)).before a0 Z = true := hw _ (List.mem_of_getElem? (i := 14) rfl)
theorem d2_4 : decode prog_2_method_1_code 4 = .ok (.aload_n 0, 1) := by decide +kernel
theorem d2_5 : decode prog_2_method_1_code 5 = .ok (.aload_n 1, 1) := by decide +kernel
theorem d2_6 : decode prog_2_method_1_code 6 = .ok (.putfield 7, 3) := by decide +kernel
theorem tw_21 {a0 : Array Value} {Z : State} (hw : ∀ d ∈ tables_1, d.before a0 Z = true) : (Jvm.Cond.fieldLink "com/example/corestone/corestone/BulkRequest" (7 : Nat) "com/example/corestone/corestone/BulkRequest" "id" "Ljava/lang/String;").before a0 Z = true := hw _ (List.mem_of_getElem? (i := 21) rfl)
theorem d2_9 : decode prog_2_method_1_code 9 = .ok (.aload_n 0, 1) := by decide +kernel
theorem d2_10 : decode prog_2_method_1_code 10 = .ok (.aload_n 2, 1) := by decide +kernel
theorem d2_11 : decode prog_2_method_1_code 11 = .ok (.putfield 13, 3) := by decide +kernel
theorem tw_23 {a0 : Array Value} {Z : State} (hw : ∀ d ∈ tables_1, d.before a0 Z = true) : (Jvm.Cond.fieldLink "com/example/corestone/corestone/BulkRequest" (13 : Nat) "com/example/corestone/corestone/BulkRequest" "owner" "Ljava/lang/String;").before a0 Z = true := hw _ (List.mem_of_getElem? (i := 23) rfl)
theorem d2_14 : decode prog_2_method_1_code 14 = .ok (.aload_n 0, 1) := by decide +kernel
theorem d2_15 : decode prog_2_method_1_code 15 = .ok (.aload_n 3, 1) := by decide +kernel
theorem d2_16 : decode prog_2_method_1_code 16 = .ok (.putfield 16, 3) := by decide +kernel
theorem tw_25 {a0 : Array Value} {Z : State} (hw : ∀ d ∈ tables_1, d.before a0 Z = true) : (Jvm.Cond.fieldLink "com/example/corestone/corestone/BulkRequest" (16 : Nat) "com/example/corestone/corestone/BulkRequest" "status" "Lcom/example/corestone/corestone/BulkRequest$Status;").before a0 Z = true := hw _ (List.mem_of_getElem? (i := 25) rfl)
theorem d2_19 : decode prog_2_method_1_code 19 = .ok (.aload_n 0, 1) := by decide +kernel
theorem d2_20 : decode prog_2_method_1_code 20 = .ok (.aload 4, 2) := by decide +kernel
theorem d2_22 : decode prog_2_method_1_code 22 = .ok (.putfield 20, 3) := by decide +kernel
theorem tw_27 {a0 : Array Value} {Z : State} (hw : ∀ d ∈ tables_1, d.before a0 Z = true) : (Jvm.Cond.fieldLink "com/example/corestone/corestone/BulkRequest" (20 : Nat) "com/example/corestone/corestone/BulkRequest" "createdAt" "Ljava/time/Instant;").before a0 Z = true := hw _ (List.mem_of_getElem? (i := 27) rfl)
theorem d2_25 : decode prog_2_method_1_code 25 = .ok (.aload_n 0, 1) := by decide +kernel
theorem d2_26 : decode prog_2_method_1_code 26 = .ok (.aload 5, 2) := by decide +kernel
theorem d2_28 : decode prog_2_method_1_code 28 = .ok (.putfield 24, 3) := by decide +kernel
theorem tw_29 {a0 : Array Value} {Z : State} (hw : ∀ d ∈ tables_1, d.before a0 Z = true) : (Jvm.Cond.fieldLink "com/example/corestone/corestone/BulkRequest" (24 : Nat) "com/example/corestone/corestone/BulkRequest" "updatedAt" "Ljava/time/Instant;").before a0 Z = true := hw _ (List.mem_of_getElem? (i := 29) rfl)
theorem d2_31 : decode prog_2_method_1_code 31 = .ok (.aload_n 0, 1) := by decide +kernel
theorem d2_32 : decode prog_2_method_1_code 32 = .ok (.iload 6, 2) := by decide +kernel
theorem d2_34 : decode prog_2_method_1_code 34 = .ok (.putfield 27, 3) := by decide +kernel
theorem tw_31 {a0 : Array Value} {Z : State} (hw : ∀ d ∈ tables_1, d.before a0 Z = true) : (Jvm.Cond.fieldLink "com/example/corestone/corestone/BulkRequest" (27 : Nat) "com/example/corestone/corestone/BulkRequest" "received" "I").before a0 Z = true := hw _ (List.mem_of_getElem? (i := 31) rfl)
theorem d2_37 : decode prog_2_method_1_code 37 = .ok (.aload_n 0, 1) := by decide +kernel
theorem d2_38 : decode prog_2_method_1_code 38 = .ok (.iload 7, 2) := by decide +kernel
theorem d2_40 : decode prog_2_method_1_code 40 = .ok (.putfield 31, 3) := by decide +kernel
theorem tw_33 {a0 : Array Value} {Z : State} (hw : ∀ d ∈ tables_1, d.before a0 Z = true) : (Jvm.Cond.fieldLink "com/example/corestone/corestone/BulkRequest" (31 : Nat) "com/example/corestone/corestone/BulkRequest" "created" "I").before a0 Z = true := hw _ (List.mem_of_getElem? (i := 33) rfl)
theorem d2_43 : decode prog_2_method_1_code 43 = .ok (.aload_n 0, 1) := by decide +kernel
theorem d2_44 : decode prog_2_method_1_code 44 = .ok (.iload 8, 2) := by decide +kernel
theorem d2_46 : decode prog_2_method_1_code 46 = .ok (.putfield 34, 3) := by decide +kernel
theorem tw_35 {a0 : Array Value} {Z : State} (hw : ∀ d ∈ tables_1, d.before a0 Z = true) : (Jvm.Cond.fieldLink "com/example/corestone/corestone/BulkRequest" (34 : Nat) "com/example/corestone/corestone/BulkRequest" "updated" "I").before a0 Z = true := hw _ (List.mem_of_getElem? (i := 35) rfl)
theorem d2_49 : decode prog_2_method_1_code 49 = .ok (.aload_n 0, 1) := by decide +kernel
theorem d2_50 : decode prog_2_method_1_code 50 = .ok (.iload 9, 2) := by decide +kernel
theorem d2_52 : decode prog_2_method_1_code 52 = .ok (.putfield 37, 3) := by decide +kernel
theorem tw_37 {a0 : Array Value} {Z : State} (hw : ∀ d ∈ tables_1, d.before a0 Z = true) : (Jvm.Cond.fieldLink "com/example/corestone/corestone/BulkRequest" (37 : Nat) "com/example/corestone/corestone/BulkRequest" "refused" "I").before a0 Z = true := hw _ (List.mem_of_getElem? (i := 37) rfl)
theorem d2_55 : decode prog_2_method_1_code 55 = .ok (.return_, 1) := by decide +kernel
abbrev R_2_0_0_24 : Room := { frames := 2, cells := 0, slots := 0, locals := 24 }
abbrev M_1 : MethodName := ⟨"com/example/corestone/corestone/BulkRequest", "<init>", "(Ljava/lang/String;Ljava/lang/String;Lcom/example/corestone/corestone/BulkRequest$Status;Ljava/time/Instant;Ljava/time/Instant;IIII)V"⟩
theorem ef2_RnnRnnIIII (m : MethodId) (x0 : Addr) (x3 : Addr) (x6 : Int32) (x7 : Int32) (x8 : Int32) (x9 : Int32) : entryFrame m #[(.ref x0), .null, .null, (.ref x3), .null, .null, (.int x6), (.int x7), (.int x8), (.int x9)] 10 = mkF m 0 #[.val (.ref x0), .val .null, .val .null, .val (.ref x3), .val .null, .val .null, .val (.int x6), .val (.int x7), .val (.int x8), .val (.int x9)] [] := by first | (simp [entryFrame, mkF, argsToLocals, Value.category]; done) | rfl
def Q2_18 (Z : State) (c0_a : Addr) (a_QUEUED : Addr) (h0 : Heap) (n0 : Nat) (v : Option Value) (h : Heap) (L : List Loc) : Prop := v = none ∧ Fr n0 L ∧ Keep h0 h [c0_a] ∧ F_1 Z h c0_a .null ∧ F_2 Z h c0_a .null ∧ F_3 Z h c0_a (.ref a_QUEUED) ∧ F_4 Z h c0_a .null ∧ F_5 Z h c0_a .null ∧ F_6 Z h c0_a (.int 0) ∧ F_7 Z h c0_a (.int 0) ∧ F_8 Z h c0_a (.int 0) ∧ F_9 Z h c0_a (.int 0)
theorem pn_com_example_corestone_corestone_BulkRequest : plainName "com/example/corestone/corestone/BulkRequest" = true := by first | (simp [plainName, overriddenIn]; done) | decide +kernel
set_option maxRecDepth 65536 in
set_option maxHeartbeats 40000000 in
theorem rm2_17 (l : Launch) (Z : State) (a0 : Array Value) (hw : ∀ d ∈ tables_1, d.before a0 Z = true) (ws : List Jvm.Cond) (c0_a : Addr) (a_QUEUED : Addr) (h0 : Heap) (n0 : Nat) (Z0 : n0 ≤ h0.size) (f1 : F_1 Z h0 c0_a .null) (f2 : E_1 Z h0 c0_a) (f3 : n0 ≤ c0_a) (f4 : F_2 Z h0 c0_a .null) (f5 : F_3 Z h0 c0_a .null) (f6 : F_4 Z h0 c0_a .null) (f7 : F_5 Z h0 c0_a .null) (f8 : F_6 Z h0 c0_a (.int 0)) (f9 : F_7 Z h0 c0_a (.int 0)) (f10 : F_8 Z h0 c0_a (.int 0)) (f11 : F_9 Z h0 c0_a (.int 0)) :
    MetFree l M_1 (head1 (Jvm.Cond.code M_1 prog_2_method_1_code 10 none :: ws) R_2_0_0_24) (fun a U => a = #[(.ref c0_a), .null, .null, (.ref a_QUEUED), .null, .null, (.int 0), (.int 0), (.int 0), (.int 0)] ∧ Z.Warmed39 U.vm ∧ U.heap = h0) (fun _ _ _ _ _ => True) (fun _ U o U' => ∃ v L, o = .returned v ∧ Q2_18 Z c0_a a_QUEUED h0 n0 v U'.heap L ∧ FrameEnd U o U' L R_2_0_0_24.cells R_2_0_0_24.slots) := by
  refine MetFree.of_bodySF (plainFor_of_name pn_com_example_corestone_corestone_BulkRequest) hisR ?_
  intro p e s m args below meth c s₁ Bd hml0 hP hK
  obtain ⟨rfl, hZ, hh⟩ := hP
  have hx := Bd.exec
  have hby := Bd.bytes
  have hml : c.maxLocals = 10 := hml0
  have hown : s.vm.findClass "com/example/corestone/corestone/BulkRequest" = some m.cls := findClass_of_methodNamed Bd.named
  have hnm := (name_of_methodNamed Bd.named Bd.method).1
  have X0 : Stand p l e R_2_0_0_24 s m #[(.ref c0_a), .null, .null, (.ref a_QUEUED), .null, .null, (.int 0), (.int 0), (.int 0), (.int 0)] below meth c s₁ [] 0 0 := Stand.of_body Bd
  have e0 : s₁.heap = h0 := by rw [← hh, Bd.state]; rfl
  have N0 := Fr.nil n0
  -- pc 1: java/lang/Record.<init>
  obtain ⟨_, _, ⟨T1, L1, k1, n1⟩, -, X1, ⟨Lc1, hQ1, l1, y1, z1⟩, st1⟩ := X0.specialBack hx (y := M_0) rfl hown (mvT hZ (tw_13 hw)) (mvT hZ (tw_14 hw)) (mvT hZ (tw_17 hw)) (by decide) (backOf (W := 0) (rm3_16 l Z a0 hw [] c0_a h0 n0 Z0 ) hZ (tw_17 hw) (tw_16 hw) (by decide) (by decide)) (g := (mkF m 1 #[.val (.ref c0_a), .val .null, .val .null, .val (.ref a_QUEUED), .val .null, .val .null, .val (.int 0), .val (.int 0), .val (.int 0), .val (.int 0)] [(.ref c0_a)])) rfl (by rw [hml]; rfl) (Steps.refl _) (a := c0_a) (argsL := []) (rest := []) (lenOf pd_0 rfl) rfl (by show 2 * 0 + _ ≤ _; exact Nat.le_of_eq rfl) (hb hby d2_1) (fun _ _ => ⟨rfl, e0, (by decide : 0 + 0 ≤ _), (by decide : 0 + 0 ≤ _)⟩)
  dsimp only [Pt.U, Pt.locs, Pt.cells, Pt.slots] at X1 l1 y1 z1 st1 hQ1
  subst l1 y1 z1
  obtain ⟨rfl, Nq1, e1⟩ := hQ1
  have N1 := Fr.app N0 Nq1
  obtain ⟨T2, h2, X2, e2, W2, st2⟩ := putF X1 hx hZ hown (host := "") (Or.inl (tw_21 hw)) Via.refl e1 f1 f2 (Or.inr ⟨(tw_22 hw), rfl, hnm⟩) (tw_8 hw) (ty := (.object "java/lang/String")) (by decide) rfl rfl (g := (mkF m 6 #[.val (.ref c0_a), .val .null, .val .null, .val (.ref a_QUEUED), .val .null, .val .null, .val (.int 0), .val (.int 0), .val (.int 0), .val (.int 0)] [.null, (.ref c0_a)])) rfl rfl (hb hby d2_6)
  have Fw2 : F_1 Z h2 c0_a .null := Fld.same W2 f1
  have KK2 : Keep h0 h2 [c0_a] := (Keep.refl h0 [c0_a]).wr W2 (Or.inl (List.mem_of_getElem? (i := 0) rfl))
  have N2 := Fr.snoc X2 N1 f3
  have u3 : F_2 Z h2 c0_a .null := Fld.other W2 f4 (Or.inr (slot_ne (a0 := a0) (Or.inr (tw_24 hw)) (Or.inr (tw_22 hw)) (by decide) (t := (.object "java/lang/String")) (t' := (.object "java/lang/String")) (by decide) (by decide)))
  have u4 : E_1 Z h2 c0_a := Exa.wr W2 f2
  obtain ⟨T5, h5, X5, e5, W5, st5⟩ := putF X2 hx hZ hown (host := "") (Or.inl (tw_23 hw)) Via.refl e2 u3 u4 (Or.inr ⟨(tw_24 hw), rfl, hnm⟩) (tw_8 hw) (ty := (.object "java/lang/String")) (by decide) rfl rfl (g := (mkF m 11 #[.val (.ref c0_a), .val .null, .val .null, .val (.ref a_QUEUED), .val .null, .val .null, .val (.int 0), .val (.int 0), .val (.int 0), .val (.int 0)] [.null, (.ref c0_a)])) rfl rfl (hb hby d2_11)
  have Fw5 : F_2 Z h5 c0_a .null := Fld.same W5 u3
  have KK5 : Keep h0 h5 [c0_a] := KK2.wr W5 (Or.inl (List.mem_of_getElem? (i := 0) rfl))
  have N5 := Fr.snoc X5 N2 f3
  have u6 : F_3 Z h2 c0_a .null := Fld.other W2 f5 (Or.inr (slot_ne (a0 := a0) (Or.inr (tw_26 hw)) (Or.inr (tw_22 hw)) (by decide) (t := (.object "com/example/corestone/corestone/BulkRequest$Status")) (t' := (.object "java/lang/String")) (by decide) (by decide)))
  have u7 : F_3 Z h5 c0_a .null := Fld.other W5 u6 (Or.inr (slot_ne (a0 := a0) (Or.inr (tw_26 hw)) (Or.inr (tw_24 hw)) (by decide) (t := (.object "com/example/corestone/corestone/BulkRequest$Status")) (t' := (.object "java/lang/String")) (by decide) (by decide)))
  have u8 : E_1 Z h5 c0_a := Exa.wr W5 u4
  obtain ⟨T9, h9, X9, e9, W9, st9⟩ := putF X5 hx hZ hown (host := "") (Or.inl (tw_25 hw)) Via.refl e5 u7 u8 (Or.inr ⟨(tw_26 hw), rfl, hnm⟩) (tw_8 hw) (ty := (.object "com/example/corestone/corestone/BulkRequest$Status")) (by decide) rfl rfl (g := (mkF m 16 #[.val (.ref c0_a), .val .null, .val .null, .val (.ref a_QUEUED), .val .null, .val .null, .val (.int 0), .val (.int 0), .val (.int 0), .val (.int 0)] [(.ref a_QUEUED), (.ref c0_a)])) rfl rfl (hb hby d2_16)
  have Fw9 : F_3 Z h9 c0_a (.ref a_QUEUED) := Fld.same W9 u7
  have KK9 : Keep h0 h9 [c0_a] := KK5.wr W9 (Or.inl (List.mem_of_getElem? (i := 0) rfl))
  have N9 := Fr.snoc X9 N5 f3
  have u10 : F_4 Z h2 c0_a .null := Fld.other W2 f6 (Or.inr (slot_ne (a0 := a0) (Or.inr (tw_28 hw)) (Or.inr (tw_22 hw)) (by decide) (t := (.object "java/time/Instant")) (t' := (.object "java/lang/String")) (by decide) (by decide)))
  have u11 : F_4 Z h5 c0_a .null := Fld.other W5 u10 (Or.inr (slot_ne (a0 := a0) (Or.inr (tw_28 hw)) (Or.inr (tw_24 hw)) (by decide) (t := (.object "java/time/Instant")) (t' := (.object "java/lang/String")) (by decide) (by decide)))
  have u12 : F_4 Z h9 c0_a .null := Fld.other W9 u11 (Or.inr (slot_ne (a0 := a0) (Or.inr (tw_28 hw)) (Or.inr (tw_26 hw)) (by decide) (t := (.object "java/time/Instant")) (t' := (.object "com/example/corestone/corestone/BulkRequest$Status")) (by decide) (by decide)))
  have u13 : E_1 Z h9 c0_a := Exa.wr W9 u8
  obtain ⟨T14, h14, X14, e14, W14, st14⟩ := putF X9 hx hZ hown (host := "") (Or.inl (tw_27 hw)) Via.refl e9 u12 u13 (Or.inr ⟨(tw_28 hw), rfl, hnm⟩) (tw_8 hw) (ty := (.object "java/time/Instant")) (by decide) rfl rfl (g := (mkF m 22 #[.val (.ref c0_a), .val .null, .val .null, .val (.ref a_QUEUED), .val .null, .val .null, .val (.int 0), .val (.int 0), .val (.int 0), .val (.int 0)] [.null, (.ref c0_a)])) rfl rfl (hb hby d2_22)
  have Fw14 : F_4 Z h14 c0_a .null := Fld.same W14 u12
  have KK14 : Keep h0 h14 [c0_a] := KK9.wr W14 (Or.inl (List.mem_of_getElem? (i := 0) rfl))
  have N14 := Fr.snoc X14 N9 f3
  have u15 : F_5 Z h2 c0_a .null := Fld.other W2 f7 (Or.inr (slot_ne (a0 := a0) (Or.inr (tw_30 hw)) (Or.inr (tw_22 hw)) (by decide) (t := (.object "java/time/Instant")) (t' := (.object "java/lang/String")) (by decide) (by decide)))
  have u16 : F_5 Z h5 c0_a .null := Fld.other W5 u15 (Or.inr (slot_ne (a0 := a0) (Or.inr (tw_30 hw)) (Or.inr (tw_24 hw)) (by decide) (t := (.object "java/time/Instant")) (t' := (.object "java/lang/String")) (by decide) (by decide)))
  have u17 : F_5 Z h9 c0_a .null := Fld.other W9 u16 (Or.inr (slot_ne (a0 := a0) (Or.inr (tw_30 hw)) (Or.inr (tw_26 hw)) (by decide) (t := (.object "java/time/Instant")) (t' := (.object "com/example/corestone/corestone/BulkRequest$Status")) (by decide) (by decide)))
  have u18 : F_5 Z h14 c0_a .null := Fld.other W14 u17 (Or.inr (slot_ne (a0 := a0) (Or.inr (tw_30 hw)) (Or.inr (tw_28 hw)) (by decide) (t := (.object "java/time/Instant")) (t' := (.object "java/time/Instant")) (by decide) (by decide)))
  have u19 : E_1 Z h14 c0_a := Exa.wr W14 u13
  obtain ⟨T20, h20, X20, e20, W20, st20⟩ := putF X14 hx hZ hown (host := "") (Or.inl (tw_29 hw)) Via.refl e14 u18 u19 (Or.inr ⟨(tw_30 hw), rfl, hnm⟩) (tw_8 hw) (ty := (.object "java/time/Instant")) (by decide) rfl rfl (g := (mkF m 28 #[.val (.ref c0_a), .val .null, .val .null, .val (.ref a_QUEUED), .val .null, .val .null, .val (.int 0), .val (.int 0), .val (.int 0), .val (.int 0)] [.null, (.ref c0_a)])) rfl rfl (hb hby d2_28)
  have Fw20 : F_5 Z h20 c0_a .null := Fld.same W20 u18
  have KK20 : Keep h0 h20 [c0_a] := KK14.wr W20 (Or.inl (List.mem_of_getElem? (i := 0) rfl))
  have N20 := Fr.snoc X20 N14 f3
  have u21 : F_6 Z h2 c0_a (.int 0) := Fld.other W2 f8 (Or.inr (slot_ne (a0 := a0) (Or.inr (tw_32 hw)) (Or.inr (tw_22 hw)) (by decide) (t := .int) (t' := (.object "java/lang/String")) (by decide) (by decide)))
  have u22 : F_6 Z h5 c0_a (.int 0) := Fld.other W5 u21 (Or.inr (slot_ne (a0 := a0) (Or.inr (tw_32 hw)) (Or.inr (tw_24 hw)) (by decide) (t := .int) (t' := (.object "java/lang/String")) (by decide) (by decide)))
  have u23 : F_6 Z h9 c0_a (.int 0) := Fld.other W9 u22 (Or.inr (slot_ne (a0 := a0) (Or.inr (tw_32 hw)) (Or.inr (tw_26 hw)) (by decide) (t := .int) (t' := (.object "com/example/corestone/corestone/BulkRequest$Status")) (by decide) (by decide)))
  have u24 : F_6 Z h14 c0_a (.int 0) := Fld.other W14 u23 (Or.inr (slot_ne (a0 := a0) (Or.inr (tw_32 hw)) (Or.inr (tw_28 hw)) (by decide) (t := .int) (t' := (.object "java/time/Instant")) (by decide) (by decide)))
  have u25 : F_6 Z h20 c0_a (.int 0) := Fld.other W20 u24 (Or.inr (slot_ne (a0 := a0) (Or.inr (tw_32 hw)) (Or.inr (tw_30 hw)) (by decide) (t := .int) (t' := (.object "java/time/Instant")) (by decide) (by decide)))
  have u26 : E_1 Z h20 c0_a := Exa.wr W20 u19
  obtain ⟨T27, h27, X27, e27, W27, st27⟩ := putF X20 hx hZ hown (host := "") (Or.inl (tw_31 hw)) Via.refl e20 u25 u26 (Or.inr ⟨(tw_32 hw), rfl, hnm⟩) (tw_8 hw) (ty := .int) (by decide) rfl rfl (g := (mkF m 34 #[.val (.ref c0_a), .val .null, .val .null, .val (.ref a_QUEUED), .val .null, .val .null, .val (.int 0), .val (.int 0), .val (.int 0), .val (.int 0)] [(.int 0), (.ref c0_a)])) rfl rfl (hb hby d2_34)
  have Fw27 : F_6 Z h27 c0_a (.int 0) := Fld.same W27 u25
  have KK27 : Keep h0 h27 [c0_a] := KK20.wr W27 (Or.inl (List.mem_of_getElem? (i := 0) rfl))
  have N27 := Fr.snoc X27 N20 f3
  have u28 : F_7 Z h2 c0_a (.int 0) := Fld.other W2 f9 (Or.inr (slot_ne (a0 := a0) (Or.inr (tw_34 hw)) (Or.inr (tw_22 hw)) (by decide) (t := .int) (t' := (.object "java/lang/String")) (by decide) (by decide)))
  have u29 : F_7 Z h5 c0_a (.int 0) := Fld.other W5 u28 (Or.inr (slot_ne (a0 := a0) (Or.inr (tw_34 hw)) (Or.inr (tw_24 hw)) (by decide) (t := .int) (t' := (.object "java/lang/String")) (by decide) (by decide)))
  have u30 : F_7 Z h9 c0_a (.int 0) := Fld.other W9 u29 (Or.inr (slot_ne (a0 := a0) (Or.inr (tw_34 hw)) (Or.inr (tw_26 hw)) (by decide) (t := .int) (t' := (.object "com/example/corestone/corestone/BulkRequest$Status")) (by decide) (by decide)))
  have u31 : F_7 Z h14 c0_a (.int 0) := Fld.other W14 u30 (Or.inr (slot_ne (a0 := a0) (Or.inr (tw_34 hw)) (Or.inr (tw_28 hw)) (by decide) (t := .int) (t' := (.object "java/time/Instant")) (by decide) (by decide)))
  have u32 : F_7 Z h20 c0_a (.int 0) := Fld.other W20 u31 (Or.inr (slot_ne (a0 := a0) (Or.inr (tw_34 hw)) (Or.inr (tw_30 hw)) (by decide) (t := .int) (t' := (.object "java/time/Instant")) (by decide) (by decide)))
  have u33 : F_7 Z h27 c0_a (.int 0) := Fld.other W27 u32 (Or.inr (slot_ne (a0 := a0) (Or.inr (tw_34 hw)) (Or.inr (tw_32 hw)) (by decide) (t := .int) (t' := .int) (by decide) (by decide)))
  have u34 : E_1 Z h27 c0_a := Exa.wr W27 u26
  obtain ⟨T35, h35, X35, e35, W35, st35⟩ := putF X27 hx hZ hown (host := "") (Or.inl (tw_33 hw)) Via.refl e27 u33 u34 (Or.inr ⟨(tw_34 hw), rfl, hnm⟩) (tw_8 hw) (ty := .int) (by decide) rfl rfl (g := (mkF m 40 #[.val (.ref c0_a), .val .null, .val .null, .val (.ref a_QUEUED), .val .null, .val .null, .val (.int 0), .val (.int 0), .val (.int 0), .val (.int 0)] [(.int 0), (.ref c0_a)])) rfl rfl (hb hby d2_40)
  have Fw35 : F_7 Z h35 c0_a (.int 0) := Fld.same W35 u33
  have KK35 : Keep h0 h35 [c0_a] := KK27.wr W35 (Or.inl (List.mem_of_getElem? (i := 0) rfl))
  have N35 := Fr.snoc X35 N27 f3
  have u36 : F_8 Z h2 c0_a (.int 0) := Fld.other W2 f10 (Or.inr (slot_ne (a0 := a0) (Or.inr (tw_36 hw)) (Or.inr (tw_22 hw)) (by decide) (t := .int) (t' := (.object "java/lang/String")) (by decide) (by decide)))
  have u37 : F_8 Z h5 c0_a (.int 0) := Fld.other W5 u36 (Or.inr (slot_ne (a0 := a0) (Or.inr (tw_36 hw)) (Or.inr (tw_24 hw)) (by decide) (t := .int) (t' := (.object "java/lang/String")) (by decide) (by decide)))
  have u38 : F_8 Z h9 c0_a (.int 0) := Fld.other W9 u37 (Or.inr (slot_ne (a0 := a0) (Or.inr (tw_36 hw)) (Or.inr (tw_26 hw)) (by decide) (t := .int) (t' := (.object "com/example/corestone/corestone/BulkRequest$Status")) (by decide) (by decide)))
  have u39 : F_8 Z h14 c0_a (.int 0) := Fld.other W14 u38 (Or.inr (slot_ne (a0 := a0) (Or.inr (tw_36 hw)) (Or.inr (tw_28 hw)) (by decide) (t := .int) (t' := (.object "java/time/Instant")) (by decide) (by decide)))
  have u40 : F_8 Z h20 c0_a (.int 0) := Fld.other W20 u39 (Or.inr (slot_ne (a0 := a0) (Or.inr (tw_36 hw)) (Or.inr (tw_30 hw)) (by decide) (t := .int) (t' := (.object "java/time/Instant")) (by decide) (by decide)))
  have u41 : F_8 Z h27 c0_a (.int 0) := Fld.other W27 u40 (Or.inr (slot_ne (a0 := a0) (Or.inr (tw_36 hw)) (Or.inr (tw_32 hw)) (by decide) (t := .int) (t' := .int) (by decide) (by decide)))
  have u42 : F_8 Z h35 c0_a (.int 0) := Fld.other W35 u41 (Or.inr (slot_ne (a0 := a0) (Or.inr (tw_36 hw)) (Or.inr (tw_34 hw)) (by decide) (t := .int) (t' := .int) (by decide) (by decide)))
  have u43 : E_1 Z h35 c0_a := Exa.wr W35 u34
  obtain ⟨T44, h44, X44, e44, W44, st44⟩ := putF X35 hx hZ hown (host := "") (Or.inl (tw_35 hw)) Via.refl e35 u42 u43 (Or.inr ⟨(tw_36 hw), rfl, hnm⟩) (tw_8 hw) (ty := .int) (by decide) rfl rfl (g := (mkF m 46 #[.val (.ref c0_a), .val .null, .val .null, .val (.ref a_QUEUED), .val .null, .val .null, .val (.int 0), .val (.int 0), .val (.int 0), .val (.int 0)] [(.int 0), (.ref c0_a)])) rfl rfl (hb hby d2_46)
  have Fw44 : F_8 Z h44 c0_a (.int 0) := Fld.same W44 u42
  have KK44 : Keep h0 h44 [c0_a] := KK35.wr W44 (Or.inl (List.mem_of_getElem? (i := 0) rfl))
  have N44 := Fr.snoc X44 N35 f3
  have u45 : F_9 Z h2 c0_a (.int 0) := Fld.other W2 f11 (Or.inr (slot_ne (a0 := a0) (Or.inr (tw_38 hw)) (Or.inr (tw_22 hw)) (by decide) (t := .int) (t' := (.object "java/lang/String")) (by decide) (by decide)))
  have u46 : F_9 Z h5 c0_a (.int 0) := Fld.other W5 u45 (Or.inr (slot_ne (a0 := a0) (Or.inr (tw_38 hw)) (Or.inr (tw_24 hw)) (by decide) (t := .int) (t' := (.object "java/lang/String")) (by decide) (by decide)))
  have u47 : F_9 Z h9 c0_a (.int 0) := Fld.other W9 u46 (Or.inr (slot_ne (a0 := a0) (Or.inr (tw_38 hw)) (Or.inr (tw_26 hw)) (by decide) (t := .int) (t' := (.object "com/example/corestone/corestone/BulkRequest$Status")) (by decide) (by decide)))
  have u48 : F_9 Z h14 c0_a (.int 0) := Fld.other W14 u47 (Or.inr (slot_ne (a0 := a0) (Or.inr (tw_38 hw)) (Or.inr (tw_28 hw)) (by decide) (t := .int) (t' := (.object "java/time/Instant")) (by decide) (by decide)))
  have u49 : F_9 Z h20 c0_a (.int 0) := Fld.other W20 u48 (Or.inr (slot_ne (a0 := a0) (Or.inr (tw_38 hw)) (Or.inr (tw_30 hw)) (by decide) (t := .int) (t' := (.object "java/time/Instant")) (by decide) (by decide)))
  have u50 : F_9 Z h27 c0_a (.int 0) := Fld.other W27 u49 (Or.inr (slot_ne (a0 := a0) (Or.inr (tw_38 hw)) (Or.inr (tw_32 hw)) (by decide) (t := .int) (t' := .int) (by decide) (by decide)))
  have u51 : F_9 Z h35 c0_a (.int 0) := Fld.other W35 u50 (Or.inr (slot_ne (a0 := a0) (Or.inr (tw_38 hw)) (Or.inr (tw_34 hw)) (by decide) (t := .int) (t' := .int) (by decide) (by decide)))
  have u52 : F_9 Z h44 c0_a (.int 0) := Fld.other W44 u51 (Or.inr (slot_ne (a0 := a0) (Or.inr (tw_38 hw)) (Or.inr (tw_36 hw)) (by decide) (t := .int) (t' := .int) (by decide) (by decide)))
  have u53 : E_1 Z h44 c0_a := Exa.wr W44 u43
  obtain ⟨T54, h54, X54, e54, W54, st54⟩ := putF X44 hx hZ hown (host := "") (Or.inl (tw_37 hw)) Via.refl e44 u52 u53 (Or.inr ⟨(tw_38 hw), rfl, hnm⟩) (tw_8 hw) (ty := .int) (by decide) rfl rfl (g := (mkF m 52 #[.val (.ref c0_a), .val .null, .val .null, .val (.ref a_QUEUED), .val .null, .val .null, .val (.int 0), .val (.int 0), .val (.int 0), .val (.int 0)] [(.int 0), (.ref c0_a)])) rfl rfl (hb hby d2_52)
  have Fw54 : F_9 Z h54 c0_a (.int 0) := Fld.same W54 u52
  have KK54 : Keep h0 h54 [c0_a] := KK44.wr W54 (Or.inl (List.mem_of_getElem? (i := 0) rfl))
  have N54 := Fr.snoc X54 N44 f3
  have u55 : F_1 Z h5 c0_a .null := Fld.other W5 Fw2 (Or.inr (slot_ne (a0 := a0) (Or.inr (tw_22 hw)) (Or.inr (tw_24 hw)) (by decide) (t := (.object "java/lang/String")) (t' := (.object "java/lang/String")) (by decide) (by decide)))
  have u56 : F_1 Z h9 c0_a .null := Fld.other W9 u55 (Or.inr (slot_ne (a0 := a0) (Or.inr (tw_22 hw)) (Or.inr (tw_26 hw)) (by decide) (t := (.object "java/lang/String")) (t' := (.object "com/example/corestone/corestone/BulkRequest$Status")) (by decide) (by decide)))
  have u57 : F_1 Z h14 c0_a .null := Fld.other W14 u56 (Or.inr (slot_ne (a0 := a0) (Or.inr (tw_22 hw)) (Or.inr (tw_28 hw)) (by decide) (t := (.object "java/lang/String")) (t' := (.object "java/time/Instant")) (by decide) (by decide)))
  have u58 : F_1 Z h20 c0_a .null := Fld.other W20 u57 (Or.inr (slot_ne (a0 := a0) (Or.inr (tw_22 hw)) (Or.inr (tw_30 hw)) (by decide) (t := (.object "java/lang/String")) (t' := (.object "java/time/Instant")) (by decide) (by decide)))
  have u59 : F_1 Z h27 c0_a .null := Fld.other W27 u58 (Or.inr (slot_ne (a0 := a0) (Or.inr (tw_22 hw)) (Or.inr (tw_32 hw)) (by decide) (t := (.object "java/lang/String")) (t' := .int) (by decide) (by decide)))
  have u60 : F_1 Z h35 c0_a .null := Fld.other W35 u59 (Or.inr (slot_ne (a0 := a0) (Or.inr (tw_22 hw)) (Or.inr (tw_34 hw)) (by decide) (t := (.object "java/lang/String")) (t' := .int) (by decide) (by decide)))
  have u61 : F_1 Z h44 c0_a .null := Fld.other W44 u60 (Or.inr (slot_ne (a0 := a0) (Or.inr (tw_22 hw)) (Or.inr (tw_36 hw)) (by decide) (t := (.object "java/lang/String")) (t' := .int) (by decide) (by decide)))
  have u62 : F_1 Z h54 c0_a .null := Fld.other W54 u61 (Or.inr (slot_ne (a0 := a0) (Or.inr (tw_22 hw)) (Or.inr (tw_38 hw)) (by decide) (t := (.object "java/lang/String")) (t' := .int) (by decide) (by decide)))
  have u63 : F_2 Z h9 c0_a .null := Fld.other W9 Fw5 (Or.inr (slot_ne (a0 := a0) (Or.inr (tw_24 hw)) (Or.inr (tw_26 hw)) (by decide) (t := (.object "java/lang/String")) (t' := (.object "com/example/corestone/corestone/BulkRequest$Status")) (by decide) (by decide)))
  have u64 : F_2 Z h14 c0_a .null := Fld.other W14 u63 (Or.inr (slot_ne (a0 := a0) (Or.inr (tw_24 hw)) (Or.inr (tw_28 hw)) (by decide) (t := (.object "java/lang/String")) (t' := (.object "java/time/Instant")) (by decide) (by decide)))
  have u65 : F_2 Z h20 c0_a .null := Fld.other W20 u64 (Or.inr (slot_ne (a0 := a0) (Or.inr (tw_24 hw)) (Or.inr (tw_30 hw)) (by decide) (t := (.object "java/lang/String")) (t' := (.object "java/time/Instant")) (by decide) (by decide)))
  have u66 : F_2 Z h27 c0_a .null := Fld.other W27 u65 (Or.inr (slot_ne (a0 := a0) (Or.inr (tw_24 hw)) (Or.inr (tw_32 hw)) (by decide) (t := (.object "java/lang/String")) (t' := .int) (by decide) (by decide)))
  have u67 : F_2 Z h35 c0_a .null := Fld.other W35 u66 (Or.inr (slot_ne (a0 := a0) (Or.inr (tw_24 hw)) (Or.inr (tw_34 hw)) (by decide) (t := (.object "java/lang/String")) (t' := .int) (by decide) (by decide)))
  have u68 : F_2 Z h44 c0_a .null := Fld.other W44 u67 (Or.inr (slot_ne (a0 := a0) (Or.inr (tw_24 hw)) (Or.inr (tw_36 hw)) (by decide) (t := (.object "java/lang/String")) (t' := .int) (by decide) (by decide)))
  have u69 : F_2 Z h54 c0_a .null := Fld.other W54 u68 (Or.inr (slot_ne (a0 := a0) (Or.inr (tw_24 hw)) (Or.inr (tw_38 hw)) (by decide) (t := (.object "java/lang/String")) (t' := .int) (by decide) (by decide)))
  have u70 : F_3 Z h14 c0_a (.ref a_QUEUED) := Fld.other W14 Fw9 (Or.inr (slot_ne (a0 := a0) (Or.inr (tw_26 hw)) (Or.inr (tw_28 hw)) (by decide) (t := (.object "com/example/corestone/corestone/BulkRequest$Status")) (t' := (.object "java/time/Instant")) (by decide) (by decide)))
  have u71 : F_3 Z h20 c0_a (.ref a_QUEUED) := Fld.other W20 u70 (Or.inr (slot_ne (a0 := a0) (Or.inr (tw_26 hw)) (Or.inr (tw_30 hw)) (by decide) (t := (.object "com/example/corestone/corestone/BulkRequest$Status")) (t' := (.object "java/time/Instant")) (by decide) (by decide)))
  have u72 : F_3 Z h27 c0_a (.ref a_QUEUED) := Fld.other W27 u71 (Or.inr (slot_ne (a0 := a0) (Or.inr (tw_26 hw)) (Or.inr (tw_32 hw)) (by decide) (t := (.object "com/example/corestone/corestone/BulkRequest$Status")) (t' := .int) (by decide) (by decide)))
  have u73 : F_3 Z h35 c0_a (.ref a_QUEUED) := Fld.other W35 u72 (Or.inr (slot_ne (a0 := a0) (Or.inr (tw_26 hw)) (Or.inr (tw_34 hw)) (by decide) (t := (.object "com/example/corestone/corestone/BulkRequest$Status")) (t' := .int) (by decide) (by decide)))
  have u74 : F_3 Z h44 c0_a (.ref a_QUEUED) := Fld.other W44 u73 (Or.inr (slot_ne (a0 := a0) (Or.inr (tw_26 hw)) (Or.inr (tw_36 hw)) (by decide) (t := (.object "com/example/corestone/corestone/BulkRequest$Status")) (t' := .int) (by decide) (by decide)))
  have u75 : F_3 Z h54 c0_a (.ref a_QUEUED) := Fld.other W54 u74 (Or.inr (slot_ne (a0 := a0) (Or.inr (tw_26 hw)) (Or.inr (tw_38 hw)) (by decide) (t := (.object "com/example/corestone/corestone/BulkRequest$Status")) (t' := .int) (by decide) (by decide)))
  have u76 : F_4 Z h20 c0_a .null := Fld.other W20 Fw14 (Or.inr (slot_ne (a0 := a0) (Or.inr (tw_28 hw)) (Or.inr (tw_30 hw)) (by decide) (t := (.object "java/time/Instant")) (t' := (.object "java/time/Instant")) (by decide) (by decide)))
  have u77 : F_4 Z h27 c0_a .null := Fld.other W27 u76 (Or.inr (slot_ne (a0 := a0) (Or.inr (tw_28 hw)) (Or.inr (tw_32 hw)) (by decide) (t := (.object "java/time/Instant")) (t' := .int) (by decide) (by decide)))
  have u78 : F_4 Z h35 c0_a .null := Fld.other W35 u77 (Or.inr (slot_ne (a0 := a0) (Or.inr (tw_28 hw)) (Or.inr (tw_34 hw)) (by decide) (t := (.object "java/time/Instant")) (t' := .int) (by decide) (by decide)))
  have u79 : F_4 Z h44 c0_a .null := Fld.other W44 u78 (Or.inr (slot_ne (a0 := a0) (Or.inr (tw_28 hw)) (Or.inr (tw_36 hw)) (by decide) (t := (.object "java/time/Instant")) (t' := .int) (by decide) (by decide)))
  have u80 : F_4 Z h54 c0_a .null := Fld.other W54 u79 (Or.inr (slot_ne (a0 := a0) (Or.inr (tw_28 hw)) (Or.inr (tw_38 hw)) (by decide) (t := (.object "java/time/Instant")) (t' := .int) (by decide) (by decide)))
  have u81 : F_5 Z h27 c0_a .null := Fld.other W27 Fw20 (Or.inr (slot_ne (a0 := a0) (Or.inr (tw_30 hw)) (Or.inr (tw_32 hw)) (by decide) (t := (.object "java/time/Instant")) (t' := .int) (by decide) (by decide)))
  have u82 : F_5 Z h35 c0_a .null := Fld.other W35 u81 (Or.inr (slot_ne (a0 := a0) (Or.inr (tw_30 hw)) (Or.inr (tw_34 hw)) (by decide) (t := (.object "java/time/Instant")) (t' := .int) (by decide) (by decide)))
  have u83 : F_5 Z h44 c0_a .null := Fld.other W44 u82 (Or.inr (slot_ne (a0 := a0) (Or.inr (tw_30 hw)) (Or.inr (tw_36 hw)) (by decide) (t := (.object "java/time/Instant")) (t' := .int) (by decide) (by decide)))
  have u84 : F_5 Z h54 c0_a .null := Fld.other W54 u83 (Or.inr (slot_ne (a0 := a0) (Or.inr (tw_30 hw)) (Or.inr (tw_38 hw)) (by decide) (t := (.object "java/time/Instant")) (t' := .int) (by decide) (by decide)))
  have u85 : F_6 Z h35 c0_a (.int 0) := Fld.other W35 Fw27 (Or.inr (slot_ne (a0 := a0) (Or.inr (tw_32 hw)) (Or.inr (tw_34 hw)) (by decide) (t := .int) (t' := .int) (by decide) (by decide)))
  have u86 : F_6 Z h44 c0_a (.int 0) := Fld.other W44 u85 (Or.inr (slot_ne (a0 := a0) (Or.inr (tw_32 hw)) (Or.inr (tw_36 hw)) (by decide) (t := .int) (t' := .int) (by decide) (by decide)))
  have u87 : F_6 Z h54 c0_a (.int 0) := Fld.other W54 u86 (Or.inr (slot_ne (a0 := a0) (Or.inr (tw_32 hw)) (Or.inr (tw_38 hw)) (by decide) (t := .int) (t' := .int) (by decide) (by decide)))
  have u88 : F_7 Z h44 c0_a (.int 0) := Fld.other W44 Fw35 (Or.inr (slot_ne (a0 := a0) (Or.inr (tw_34 hw)) (Or.inr (tw_36 hw)) (by decide) (t := .int) (t' := .int) (by decide) (by decide)))
  have u89 : F_7 Z h54 c0_a (.int 0) := Fld.other W54 u88 (Or.inr (slot_ne (a0 := a0) (Or.inr (tw_34 hw)) (Or.inr (tw_38 hw)) (by decide) (t := .int) (t' := .int) (by decide) (by decide)))
  have u90 : F_8 Z h54 c0_a (.int 0) := Fld.other W54 Fw44 (Or.inr (slot_ne (a0 := a0) (Or.inr (tw_36 hw)) (Or.inr (tw_38 hw)) (by decide) (t := .int) (t' := .int) (by decide) (by decide)))
  obtain ⟨fs, hr, hrun, hended, hW, hsame⟩ := X54.leave (v := none) (fun _ => rfl)
  refine ⟨_, _, castTop (ef2_RnnRnnIIII m c0_a a_QUEUED (0 : Int32) (0 : Int32) (0 : Int32) (0 : Int32)) ?_, hrun, hended, _, _, rfl, ?_, ⟨_, rfl⟩, hW, hsame.mono (by decide) (by decide)⟩
  · show Steps p.tables e below (s₁.setTop (mkF m 0 #[.val (.ref c0_a), .val .null, .val .null, .val (.ref a_QUEUED), .val .null, .val .null, .val (.int 0), .val (.int 0), .val (.int 0), .val (.int 0)] [])) _
    refine XS.aloadN X0.here hx rfl (hb hby d2_0) rfl rfl ?_
    show Steps p.tables e below (s₁.setTop (mkF m 1 #[.val (.ref c0_a), .val .null, .val .null, .val (.ref a_QUEUED), .val .null, .val .null, .val (.int 0), .val (.int 0), .val (.int 0), .val (.int 0)] [(.ref c0_a)])) _
    refine st1.trans ?_
    refine XS.aloadN X1.here hx rfl (hb hby d2_4) rfl rfl ?_
    refine XS.aloadN X1.here hx rfl (hb hby d2_5) rfl rfl ?_
    show Steps p.tables e below (T1.setTop (mkF m 6 #[.val (.ref c0_a), .val .null, .val .null, .val (.ref a_QUEUED), .val .null, .val .null, .val (.int 0), .val (.int 0), .val (.int 0), .val (.int 0)] [.null, (.ref c0_a)])) _
    refine st2 _ ?_
    refine XS.aloadN X2.here hx rfl (hb hby d2_9) rfl rfl ?_
    refine XS.aloadN X2.here hx rfl (hb hby d2_10) rfl rfl ?_
    show Steps p.tables e below (T2.setTop (mkF m 11 #[.val (.ref c0_a), .val .null, .val .null, .val (.ref a_QUEUED), .val .null, .val .null, .val (.int 0), .val (.int 0), .val (.int 0), .val (.int 0)] [.null, (.ref c0_a)])) _
    refine st5 _ ?_
    refine XS.aloadN X5.here hx rfl (hb hby d2_14) rfl rfl ?_
    refine XS.aloadN X5.here hx rfl (hb hby d2_15) rfl rfl ?_
    show Steps p.tables e below (T5.setTop (mkF m 16 #[.val (.ref c0_a), .val .null, .val .null, .val (.ref a_QUEUED), .val .null, .val .null, .val (.int 0), .val (.int 0), .val (.int 0), .val (.int 0)] [(.ref a_QUEUED), (.ref c0_a)])) _
    refine st9 _ ?_
    refine XS.aloadN X9.here hx rfl (hb hby d2_19) rfl rfl ?_
    refine XS.aload X9.here hx rfl (hb hby d2_20) rfl rfl ?_
    show Steps p.tables e below (T9.setTop (mkF m 22 #[.val (.ref c0_a), .val .null, .val .null, .val (.ref a_QUEUED), .val .null, .val .null, .val (.int 0), .val (.int 0), .val (.int 0), .val (.int 0)] [.null, (.ref c0_a)])) _
    refine st14 _ ?_
    refine XS.aloadN X14.here hx rfl (hb hby d2_25) rfl rfl ?_
    refine XS.aload X14.here hx rfl (hb hby d2_26) rfl rfl ?_
    show Steps p.tables e below (T14.setTop (mkF m 28 #[.val (.ref c0_a), .val .null, .val .null, .val (.ref a_QUEUED), .val .null, .val .null, .val (.int 0), .val (.int 0), .val (.int 0), .val (.int 0)] [.null, (.ref c0_a)])) _
    refine st20 _ ?_
    refine XS.aloadN X20.here hx rfl (hb hby d2_31) rfl rfl ?_
    refine XS.iload X20.here hx rfl (hb hby d2_32) rfl ?_
    show Steps p.tables e below (T20.setTop (mkF m 34 #[.val (.ref c0_a), .val .null, .val .null, .val (.ref a_QUEUED), .val .null, .val .null, .val (.int 0), .val (.int 0), .val (.int 0), .val (.int 0)] [(.int 0), (.ref c0_a)])) _
    refine st27 _ ?_
    refine XS.aloadN X27.here hx rfl (hb hby d2_37) rfl rfl ?_
    refine XS.iload X27.here hx rfl (hb hby d2_38) rfl ?_
    show Steps p.tables e below (T27.setTop (mkF m 40 #[.val (.ref c0_a), .val .null, .val .null, .val (.ref a_QUEUED), .val .null, .val .null, .val (.int 0), .val (.int 0), .val (.int 0), .val (.int 0)] [(.int 0), (.ref c0_a)])) _
    refine st35 _ ?_
    refine XS.aloadN X35.here hx rfl (hb hby d2_43) rfl rfl ?_
    refine XS.iload X35.here hx rfl (hb hby d2_44) rfl ?_
    show Steps p.tables e below (T35.setTop (mkF m 46 #[.val (.ref c0_a), .val .null, .val .null, .val (.ref a_QUEUED), .val .null, .val .null, .val (.int 0), .val (.int 0), .val (.int 0), .val (.int 0)] [(.int 0), (.ref c0_a)])) _
    refine st44 _ ?_
    refine XS.aloadN X44.here hx rfl (hb hby d2_49) rfl rfl ?_
    refine XS.iload X44.here hx rfl (hb hby d2_50) rfl ?_
    show Steps p.tables e below (T44.setTop (mkF m 52 #[.val (.ref c0_a), .val .null, .val .null, .val (.ref a_QUEUED), .val .null, .val .null, .val (.int 0), .val (.int 0), .val (.int 0), .val (.int 0)] [(.int 0), (.ref c0_a)])) _
    refine st54 _ ?_
    show Steps p.tables e below (T54.setTop (mkF m 55 #[.val (.ref c0_a), .val .null, .val .null, .val (.ref a_QUEUED), .val .null, .val .null, .val (.int 0), .val (.int 0), .val (.int 0), .val (.int 0)] [])) _
    exact X54.returnOut hx Bd.returns (hb hby d2_55) hr
  · show Q2_18 Z c0_a a_QUEUED h0 n0 _ T54.heap _
    rw [e54]
    exact ⟨rfl, N54, KK54, u62, u69, u75, u80, u84, u87, u89, u90, Fw54⟩
theorem pd_1 : parseMethodDescriptor "(Ljava/lang/String;Ljava/lang/String;Lcom/example/corestone/corestone/BulkRequest$Status;Ljava/time/Instant;Ljava/time/Instant;IIII)V" = some ⟨[(.object "java/lang/String"), (.object "java/lang/String"), (.object "com/example/corestone/corestone/BulkRequest$Status"), (.object "java/time/Instant"), (.object "java/time/Instant"), .int, .int, .int, .int], none⟩ := by decide +kernel
theorem tw_11 {a0 : Array Value} {Z : State} (hw : ∀ d ∈ tables_1, d.before a0 Z = true) : (Jvm.Cond.instanceMethod ({ cls := "com/example/corestone/corestone/BulkRequest", name := "<init>", desc := "(Ljava/lang/String;Ljava/lang/String;Lcom/example/corestone/corestone/BulkRequest$Status;Ljava/time/Instant;Ljava/time/Instant;IIII)V" } : Jvm.MethodName)).before a0 Z = true := hw _ (List.mem_of_getElem? (i := 11) rfl)
theorem d1_18 : decode prog_2_method_2_code 18 = .ok (.areturn, 1) := by decide +kernel
abbrev R_3_1_9_46 : Room := { frames := 3, cells := 1, slots := 9, locals := 46 }
abbrev M_2 : MethodName := ⟨"com/example/corestone/corestone/BulkRequest", "queued", "(Ljava/lang/String;Ljava/lang/String;ILjava/time/Instant;)Lcom/example/corestone/corestone/BulkRequest;"⟩
theorem ef1_nnIn (m : MethodId) (x2 : Int32) : entryFrame m #[.null, .null, (.int x2), .null] 4 = mkF m 0 #[.val .null, .val .null, .val (.int x2), .val .null] [] := by first | (simp [entryFrame, mkF, argsToLocals, Value.category]; done) | rfl
def Q1_20 (Z : State) (a_QUEUED : Addr) (h0 : Heap) (n0 : Nat) (v : Option Value) (h : Heap) (L : List Loc) : Prop := ∃ (b15 : Addr), v = (some (.ref b15)) ∧ Fr n0 L ∧ Keep h0 h [] ∧ h0.size ≤ b15 ∧ E_1 Z h b15 ∧ F_1 Z h b15 .null ∧ F_2 Z h b15 .null ∧ F_3 Z h b15 (.ref a_QUEUED) ∧ F_4 Z h b15 .null ∧ F_5 Z h b15 .null ∧ F_6 Z h b15 (.int 0) ∧ F_7 Z h b15 (.int 0) ∧ F_8 Z h b15 (.int 0) ∧ F_9 Z h b15 (.int 0)
set_option maxRecDepth 65536 in
set_option maxHeartbeats 40000000 in
theorem rm1_19 (l : Launch) (Z : State) (a0 : Array Value) (hw : ∀ d ∈ tables_1, d.before a0 Z = true) (ws : List Jvm.Cond) (a_QUEUED : Addr) (h0 : Heap) (n0 : Nat) (Z0 : n0 ≤ h0.size) (f1 : S_0 Z h0 (.ref a_QUEUED)) :
    MetFree l M_2 (head1 (Jvm.Cond.code M_2 prog_2_method_2_code 4 (some (.object "com/example/corestone/corestone/BulkRequest")) :: ws) R_3_1_9_46) (fun a U => a = #[.null, .null, (.int 0), .null] ∧ Z.Warmed39 U.vm ∧ U.heap = h0) (fun _ _ _ _ _ => True) (fun _ U o U' => ∃ v L, o = .returned v ∧ Q1_20 Z a_QUEUED h0 n0 v U'.heap L ∧ FrameEnd U o U' L R_3_1_9_46.cells R_3_1_9_46.slots) := by
  refine MetFree.of_bodySF (plainFor_of_name pn_com_example_corestone_corestone_BulkRequest) hisR ?_
  intro p e s m args below meth c s₁ Bd hml0 hP hK
  obtain ⟨rfl, hZ, hh⟩ := hP
  have hx := Bd.exec
  have hby := Bd.bytes
  have hml : c.maxLocals = 4 := hml0
  have hown : s.vm.findClass "com/example/corestone/corestone/BulkRequest" = some m.cls := findClass_of_methodNamed Bd.named
  have hnm := (name_of_methodNamed Bd.named Bd.method).1
  have X0 : Stand p l e R_3_1_9_46 s m #[.null, .null, (.int 0), .null] below meth c s₁ [] 0 0 := Stand.of_body Bd
  have e0 : s₁.heap = h0 := by rw [← hh, Bd.state]; rfl
  have N0 := Fr.nil n0
  obtain ⟨T1, h1, X1, e1, E1, A1, D1, -, st1⟩ := newO X0 hx hZ hown (tw_7 hw) (tw_8 hw) (tw_5 hw) e0 (g := (mkF m 0 #[.val .null, .val .null, .val (.int 0), .val .null] [])) rfl (hb hby d1_0) (by decide) (by decide)
  obtain ⟨b15, g1⟩ : ∃ z, z = h0.size := ⟨_, rfl⟩
  rw [← g1] at A1 D1 st1
  have sz_b15 : h0.size ≤ b15 := Nat.le_trans (Nat.le_refl _) (Nat.le_of_eq g1.symm)
  have g_b15 : n0 ≤ b15 := Nat.le_trans Z0 sz_b15
  have KK1 : Keep h0 h1 [] := (Keep.refl h0 []).ext E1
  have F1_22 : F_1 Z h1 b15 .null := D1 (Or.inr (tw_22 hw)) (ty := (.object "java/lang/String")) (by decide)
  have F1_24 : F_2 Z h1 b15 .null := D1 (Or.inr (tw_24 hw)) (ty := (.object "java/lang/String")) (by decide)
  have F1_26 : F_3 Z h1 b15 .null := D1 (Or.inr (tw_26 hw)) (ty := (.object "com/example/corestone/corestone/BulkRequest$Status")) (by decide)
  have F1_28 : F_4 Z h1 b15 .null := D1 (Or.inr (tw_28 hw)) (ty := (.object "java/time/Instant")) (by decide)
  have F1_30 : F_5 Z h1 b15 .null := D1 (Or.inr (tw_30 hw)) (ty := (.object "java/time/Instant")) (by decide)
  have F1_32 : F_6 Z h1 b15 (.int 0) := D1 (Or.inr (tw_32 hw)) (ty := .int) (by decide)
  have F1_34 : F_7 Z h1 b15 (.int 0) := D1 (Or.inr (tw_34 hw)) (ty := .int) (by decide)
  have F1_36 : F_8 Z h1 b15 (.int 0) := D1 (Or.inr (tw_36 hw)) (ty := .int) (by decide)
  have F1_38 : F_9 Z h1 b15 (.int 0) := D1 (Or.inr (tw_38 hw)) (ty := .int) (by decide)
  have u2 : S_0 Z h1 (.ref a_QUEUED) := Sta.ext E1 f1
  obtain ⟨T3, X3, e3, st3⟩ := getS2 X1 hx hZ hown (host := "") (Or.inl (tw_9 hw)) Via.refl e1 u2 (g := (mkF m 6 #[.val .null, .val .null, .val (.int 0), .val .null] [.null, .null, (.ref b15), (.ref b15)])) rfl (hb hby d1_6)
  -- pc 15: com/example/corestone/corestone/BulkRequest.<init>
  obtain ⟨_, _, ⟨T4, L4, k4, n4⟩, -, X4, ⟨Lc4, hQ4, l4, y4, z4⟩, st4⟩ := X3.specialBack hx (y := M_1) rfl hown (mvT hZ (tw_10 hw)) (mvT hZ (tw_11 hw)) (mvT hZ (tw_12 hw)) (by decide) (backOf (W := 1) (rm2_17 l Z a0 hw [] b15 a_QUEUED h1 n0 (Nat.le_trans Z0 KK1.1) F1_22 A1 g_b15 F1_24 F1_26 F1_28 F1_30 F1_32 F1_34 F1_36 F1_38) hZ (tw_12 hw) (tw_5 hw) (by decide) (by decide)) (g := (mkF m 15 #[.val .null, .val .null, .val (.int 0), .val .null] [(.int 0), (.int 0), (.int 0), (.int 0), .null, .null, (.ref a_QUEUED), .null, .null, (.ref b15), (.ref b15)])) rfl (by rw [hml]; rfl) (Steps.refl _) (a := b15) (argsL := [.null, .null, (.ref a_QUEUED), .null, .null, (.int 0), (.int 0), (.int 0), (.int 0)]) (rest := [(.ref b15)]) (lenOf pd_1 rfl) rfl (by show 2 * 0 + _ ≤ _; exact Nat.le_of_eq rfl) (hb hby d1_15) (fun _ _ => ⟨rfl, e3, (by decide : 1 + 0 ≤ _), (by decide : 9 + 0 ≤ _)⟩)
  dsimp only [Pt.U, Pt.locs, Pt.cells, Pt.slots] at X4 l4 y4 z4 st4 hQ4
  subst l4 y4 z4
  obtain ⟨rfl, Nq4, K4, o4_0, o4_1, o4_2, o4_3, o4_4, o4_5, o4_6, o4_7, o4_8⟩ := hQ4
  have N4 := Fr.app N0 Nq4
  have KK4 : Keep h0 T4.heap [] := KK1.trans K4 (fun x hx => (List.mem_cons.mp hx).elim (fun q => q ▸ (Or.inr sz_b15)) (fun hx => nomatch hx))
  have u5 : E_1 Z T4.heap b15 := Exa.keep A1 K4
  obtain ⟨fs, hr, hrun, hended, hW, hsame⟩ := X4.leave (v := (some (.ref b15))) (fun h => by rw [Bd.returns] at h; cases h)
  refine ⟨_, _, castTop (ef1_nnIn m (0 : Int32)) ?_, hrun, hended, _, _, rfl, ?_, ⟨_, rfl⟩, hW, hsame.mono (by decide) (by decide)⟩
  · show Steps p.tables e below (s₁.setTop (mkF m 0 #[.val .null, .val .null, .val (.int 0), .val .null] [])) _
    refine st1 _ ?_
    refine XS.dup X1.here hx rfl (hb hby d1_3) rfl rfl ?_
    refine XS.aloadN X1.here hx rfl (hb hby d1_4) rfl rfl ?_
    refine XS.aloadN X1.here hx rfl (hb hby d1_5) rfl rfl ?_
    show Steps p.tables e below (T1.setTop (mkF m 6 #[.val .null, .val .null, .val (.int 0), .val .null] [.null, .null, (.ref b15), (.ref b15)])) _
    refine st3 _ ?_
    refine XS.aloadN X3.here hx rfl (hb hby d1_9) rfl rfl ?_
    refine XS.aloadN X3.here hx rfl (hb hby d1_10) rfl rfl ?_
    refine XS.iloadN X3.here hx rfl (hb hby d1_11) rfl ?_
    refine XS.iconst X3.here hx rfl (hb hby d1_12) ?_
    show Steps p.tables e below (T3.setTop (mkF m 13 #[.val .null, .val .null, .val (.int 0), .val .null] [(.int 0), (.int 0), .null, .null, (.ref a_QUEUED), .null, .null, (.ref b15), (.ref b15)])) _
    refine XS.iconst X3.here hx rfl (hb hby d1_13) ?_
    refine XS.iconst X3.here hx rfl (hb hby d1_14) ?_
    show Steps p.tables e below (T3.setTop (mkF m 15 #[.val .null, .val .null, .val (.int 0), .val .null] [(.int 0), (.int 0), (.int 0), (.int 0), .null, .null, (.ref a_QUEUED), .null, .null, (.ref b15), (.ref b15)])) _
    refine st4.trans ?_
    show Steps p.tables e below (T4.setTop (mkF m 18 #[.val .null, .val .null, .val (.int 0), .val .null] [(.ref b15)])) _
    jvm_step X4.here [X4.here.top, hx, (hb hby d1_18), X4.method', Bd.returns, Value.isRef, FieldType.isReference]
    first | (intro acts; rw [hr _ acts rfl rfl rfl]) | rw [hr _ _ rfl rfl rfl]
    exact Steps.refl _
  · show Q1_20 Z a_QUEUED h0 n0 _ T4.heap _
    exact ⟨b15, rfl, N4, KK4, sz_b15, u5, o4_0, o4_1, o4_2, o4_3, o4_4, o4_5, o4_6, o4_7, o4_8⟩
theorem pd_2 : parseMethodDescriptor "(Ljava/lang/String;Ljava/lang/String;ILjava/time/Instant;)Lcom/example/corestone/corestone/BulkRequest;" = some ⟨[(.object "java/lang/String"), (.object "java/lang/String"), .int, (.object "java/time/Instant")], some (.object "com/example/corestone/corestone/BulkRequest")⟩ := by decide +kernel
theorem tw_4 {a0 : Array Value} {Z : State} (hw : ∀ d ∈ tables_1, d.before a0 Z = true) : (Jvm.Cond.static ({ cls := "com/example/corestone/corestone/BulkRequest", name := "queued", desc := "(Ljava/lang/String;Ljava/lang/String;ILjava/time/Instant;)Lcom/example/corestone/corestone/BulkRequest;" } : Jvm.MethodName)).before a0 Z = true := hw _ (List.mem_of_getElem? (i := 4) rfl)
theorem tw_39 {a0 : Array Value} {Z : State} (hw : ∀ d ∈ tables_1, d.before a0 Z = true) : (Jvm.Cond.methodLink "com/example/corestone/corestone/StatusEndedPinLaw" (28 : Nat) ({ cls := "com/example/corestone/corestone/BulkRequest", name := "running", desc := "(IIILjava/time/Instant;)Lcom/example/corestone/corestone/BulkRequest;" } : Jvm.MethodName)).before a0 Z = true := hw _ (List.mem_of_getElem? (i := 39) rfl)
theorem tw_43 {a0 : Array Value} {Z : State} (hw : ∀ d ∈ tables_1, d.before a0 Z = true) : (Jvm.Cond.code ({ cls := "com/example/corestone/corestone/BulkRequest", name := "running", desc := "(IIILjava/time/Instant;)Lcom/example/corestone/corestone/BulkRequest;" } : Jvm.MethodName) prog_2_method_4_code (5 : Nat) (Option.some (Jvm.ClassFile.FieldType.object "com/example/corestone/corestone/BulkRequest"))).before a0 Z = true := hw _ (List.mem_of_getElem? (i := 43) rfl)
theorem d5_0 : decode prog_2_method_4_code 0 = .ok (.new 8, 3) := by decide +kernel
theorem d5_3 : decode prog_2_method_4_code 3 = .ok (.dup, 1) := by decide +kernel
theorem d5_4 : decode prog_2_method_4_code 4 = .ok (.aload_n 0, 1) := by decide +kernel
theorem d5_5 : decode prog_2_method_4_code 5 = .ok (.getfield 7, 3) := by decide +kernel
theorem d5_8 : decode prog_2_method_4_code 8 = .ok (.aload_n 0, 1) := by decide +kernel
theorem d5_9 : decode prog_2_method_4_code 9 = .ok (.getfield 13, 3) := by decide +kernel
theorem d5_12 : decode prog_2_method_4_code 12 = .ok (.getstatic 48, 3) := by decide +kernel
theorem tw_44 {a0 : Array Value} {Z : State} (hw : ∀ d ∈ tables_1, d.before a0 Z = true) : (Jvm.Cond.fieldLink "com/example/corestone/corestone/BulkRequest" (48 : Nat) "com/example/corestone/corestone/BulkRequest$Status" "RUNNING" "Lcom/example/corestone/corestone/BulkRequest$Status;").before a0 Z = true := hw _ (List.mem_of_getElem? (i := 44) rfl)
theorem d5_15 : decode prog_2_method_4_code 15 = .ok (.aload_n 0, 1) := by decide +kernel
theorem d5_16 : decode prog_2_method_4_code 16 = .ok (.getfield 20, 3) := by decide +kernel
theorem d5_19 : decode prog_2_method_4_code 19 = .ok (.aload 4, 2) := by decide +kernel
theorem d5_21 : decode prog_2_method_4_code 21 = .ok (.aload_n 0, 1) := by decide +kernel
theorem d5_22 : decode prog_2_method_4_code 22 = .ok (.getfield 27, 3) := by decide +kernel
theorem d5_25 : decode prog_2_method_4_code 25 = .ok (.aload_n 0, 1) := by decide +kernel
theorem d5_26 : decode prog_2_method_4_code 26 = .ok (.getfield 31, 3) := by decide +kernel
theorem d5_29 : decode prog_2_method_4_code 29 = .ok (.iload_n 1, 1) := by decide +kernel
theorem d5_30 : decode prog_2_method_4_code 30 = .ok (.iadd, 1) := by decide +kernel
theorem d5_31 : decode prog_2_method_4_code 31 = .ok (.aload_n 0, 1) := by decide +kernel
theorem d5_32 : decode prog_2_method_4_code 32 = .ok (.getfield 34, 3) := by decide +kernel
theorem d5_35 : decode prog_2_method_4_code 35 = .ok (.iload_n 2, 1) := by decide +kernel
theorem d5_36 : decode prog_2_method_4_code 36 = .ok (.iadd, 1) := by decide +kernel
theorem d5_37 : decode prog_2_method_4_code 37 = .ok (.aload_n 0, 1) := by decide +kernel
theorem d5_38 : decode prog_2_method_4_code 38 = .ok (.getfield 37, 3) := by decide +kernel
theorem d5_41 : decode prog_2_method_4_code 41 = .ok (.iload_n 3, 1) := by decide +kernel
theorem d5_42 : decode prog_2_method_4_code 42 = .ok (.iadd, 1) := by decide +kernel
theorem d5_43 : decode prog_2_method_4_code 43 = .ok (.invokespecial 45, 3) := by decide +kernel
def Q2_24 (Z : State) (c0_a : Addr) (a_RUNNING : Addr) (p1 : Int32) (p2 : Int32) (p3 : Int32) (h0 : Heap) (n0 : Nat) (v : Option Value) (h : Heap) (L : List Loc) : Prop := v = none ∧ Fr n0 L ∧ Keep h0 h [c0_a] ∧ F_1 Z h c0_a .null ∧ F_2 Z h c0_a .null ∧ F_3 Z h c0_a (.ref a_RUNNING) ∧ F_4 Z h c0_a .null ∧ F_5 Z h c0_a .null ∧ F_6 Z h c0_a (.int 0) ∧ F_7 Z h c0_a (.int ((0 : Int32) + p1)) ∧ F_8 Z h c0_a (.int ((0 : Int32) + p2)) ∧ F_9 Z h c0_a (.int ((0 : Int32) + p3))
set_option maxRecDepth 65536 in
set_option maxHeartbeats 40000000 in
theorem rm2_23 (l : Launch) (Z : State) (a0 : Array Value) (hw : ∀ d ∈ tables_1, d.before a0 Z = true) (ws : List Jvm.Cond) (c0_a : Addr) (a_RUNNING : Addr) (p1 : Int32) (p2 : Int32) (p3 : Int32) (h0 : Heap) (n0 : Nat) (Z0 : n0 ≤ h0.size) (f1 : F_1 Z h0 c0_a .null) (f2 : E_1 Z h0 c0_a) (f3 : n0 ≤ c0_a) (f4 : F_2 Z h0 c0_a .null) (f5 : F_3 Z h0 c0_a .null) (f6 : F_4 Z h0 c0_a .null) (f7 : F_5 Z h0 c0_a .null) (f8 : F_6 Z h0 c0_a (.int 0)) (f9 : F_7 Z h0 c0_a (.int 0)) (f10 : F_8 Z h0 c0_a (.int 0)) (f11 : F_9 Z h0 c0_a (.int 0)) :
    MetFree l M_1 (head1 (Jvm.Cond.code M_1 prog_2_method_1_code 10 none :: ws) R_2_0_0_24) (fun a U => a = #[(.ref c0_a), .null, .null, (.ref a_RUNNING), .null, .null, (.int 0), (.int ((0 : Int32) + p1)), (.int ((0 : Int32) + p2)), (.int ((0 : Int32) + p3))] ∧ Z.Warmed39 U.vm ∧ U.heap = h0) (fun _ _ _ _ _ => True) (fun _ U o U' => ∃ v L, o = .returned v ∧ Q2_24 Z c0_a a_RUNNING p1 p2 p3 h0 n0 v U'.heap L ∧ FrameEnd U o U' L R_2_0_0_24.cells R_2_0_0_24.slots) := by
  refine MetFree.of_bodySF (plainFor_of_name pn_com_example_corestone_corestone_BulkRequest) hisR ?_
  intro p e s m args below meth c s₁ Bd hml0 hP hK
  obtain ⟨rfl, hZ, hh⟩ := hP
  have hx := Bd.exec
  have hby := Bd.bytes
  have hml : c.maxLocals = 10 := hml0
  have hown : s.vm.findClass "com/example/corestone/corestone/BulkRequest" = some m.cls := findClass_of_methodNamed Bd.named
  have hnm := (name_of_methodNamed Bd.named Bd.method).1
  have X0 : Stand p l e R_2_0_0_24 s m #[(.ref c0_a), .null, .null, (.ref a_RUNNING), .null, .null, (.int 0), (.int ((0 : Int32) + p1)), (.int ((0 : Int32) + p2)), (.int ((0 : Int32) + p3))] below meth c s₁ [] 0 0 := Stand.of_body Bd
  have e0 : s₁.heap = h0 := by rw [← hh, Bd.state]; rfl
  have N0 := Fr.nil n0
  -- pc 1: java/lang/Record.<init>
  obtain ⟨_, _, ⟨T1, L1, k1, n1⟩, -, X1, ⟨Lc1, hQ1, l1, y1, z1⟩, st1⟩ := X0.specialBack hx (y := M_0) rfl hown (mvT hZ (tw_13 hw)) (mvT hZ (tw_14 hw)) (mvT hZ (tw_17 hw)) (by decide) (backOf (W := 0) (rm3_16 l Z a0 hw [] c0_a h0 n0 Z0 ) hZ (tw_17 hw) (tw_16 hw) (by decide) (by decide)) (g := (mkF m 1 #[.val (.ref c0_a), .val .null, .val .null, .val (.ref a_RUNNING), .val .null, .val .null, .val (.int 0), .val (.int ((0 : Int32) + p1)), .val (.int ((0 : Int32) + p2)), .val (.int ((0 : Int32) + p3))] [(.ref c0_a)])) rfl (by rw [hml]; rfl) (Steps.refl _) (a := c0_a) (argsL := []) (rest := []) (lenOf pd_0 rfl) rfl (by show 2 * 0 + _ ≤ _; exact Nat.le_of_eq rfl) (hb hby d2_1) (fun _ _ => ⟨rfl, e0, (by decide : 0 + 0 ≤ _), (by decide : 0 + 0 ≤ _)⟩)
  dsimp only [Pt.U, Pt.locs, Pt.cells, Pt.slots] at X1 l1 y1 z1 st1 hQ1
  subst l1 y1 z1
  obtain ⟨rfl, Nq1, e1⟩ := hQ1
  have N1 := Fr.app N0 Nq1
  obtain ⟨T2, h2, X2, e2, W2, st2⟩ := putF X1 hx hZ hown (host := "") (Or.inl (tw_21 hw)) Via.refl e1 f1 f2 (Or.inr ⟨(tw_22 hw), rfl, hnm⟩) (tw_8 hw) (ty := (.object "java/lang/String")) (by decide) rfl rfl (g := (mkF m 6 #[.val (.ref c0_a), .val .null, .val .null, .val (.ref a_RUNNING), .val .null, .val .null, .val (.int 0), .val (.int ((0 : Int32) + p1)), .val (.int ((0 : Int32) + p2)), .val (.int ((0 : Int32) + p3))] [.null, (.ref c0_a)])) rfl rfl (hb hby d2_6)
  have Fw2 : F_1 Z h2 c0_a .null := Fld.same W2 f1
  have KK2 : Keep h0 h2 [c0_a] := (Keep.refl h0 [c0_a]).wr W2 (Or.inl (List.mem_of_getElem? (i := 0) rfl))
  have N2 := Fr.snoc X2 N1 f3
  have u3 : F_2 Z h2 c0_a .null := Fld.other W2 f4 (Or.inr (slot_ne (a0 := a0) (Or.inr (tw_24 hw)) (Or.inr (tw_22 hw)) (by decide) (t := (.object "java/lang/String")) (t' := (.object "java/lang/String")) (by decide) (by decide)))
  have u4 : E_1 Z h2 c0_a := Exa.wr W2 f2
  obtain ⟨T5, h5, X5, e5, W5, st5⟩ := putF X2 hx hZ hown (host := "") (Or.inl (tw_23 hw)) Via.refl e2 u3 u4 (Or.inr ⟨(tw_24 hw), rfl, hnm⟩) (tw_8 hw) (ty := (.object "java/lang/String")) (by decide) rfl rfl (g := (mkF m 11 #[.val (.ref c0_a), .val .null, .val .null, .val (.ref a_RUNNING), .val .null, .val .null, .val (.int 0), .val (.int ((0 : Int32) + p1)), .val (.int ((0 : Int32) + p2)), .val (.int ((0 : Int32) + p3))] [.null, (.ref c0_a)])) rfl rfl (hb hby d2_11)
  have Fw5 : F_2 Z h5 c0_a .null := Fld.same W5 u3
  have KK5 : Keep h0 h5 [c0_a] := KK2.wr W5 (Or.inl (List.mem_of_getElem? (i := 0) rfl))
  have N5 := Fr.snoc X5 N2 f3
  have u6 : F_3 Z h2 c0_a .null := Fld.other W2 f5 (Or.inr (slot_ne (a0 := a0) (Or.inr (tw_26 hw)) (Or.inr (tw_22 hw)) (by decide) (t := (.object "com/example/corestone/corestone/BulkRequest$Status")) (t' := (.object "java/lang/String")) (by decide) (by decide)))
  have u7 : F_3 Z h5 c0_a .null := Fld.other W5 u6 (Or.inr (slot_ne (a0 := a0) (Or.inr (tw_26 hw)) (Or.inr (tw_24 hw)) (by decide) (t := (.object "com/example/corestone/corestone/BulkRequest$Status")) (t' := (.object "java/lang/String")) (by decide) (by decide)))
  have u8 : E_1 Z h5 c0_a := Exa.wr W5 u4
  obtain ⟨T9, h9, X9, e9, W9, st9⟩ := putF X5 hx hZ hown (host := "") (Or.inl (tw_25 hw)) Via.refl e5 u7 u8 (Or.inr ⟨(tw_26 hw), rfl, hnm⟩) (tw_8 hw) (ty := (.object "com/example/corestone/corestone/BulkRequest$Status")) (by decide) rfl rfl (g := (mkF m 16 #[.val (.ref c0_a), .val .null, .val .null, .val (.ref a_RUNNING), .val .null, .val .null, .val (.int 0), .val (.int ((0 : Int32) + p1)), .val (.int ((0 : Int32) + p2)), .val (.int ((0 : Int32) + p3))] [(.ref a_RUNNING), (.ref c0_a)])) rfl rfl (hb hby d2_16)
  have Fw9 : F_3 Z h9 c0_a (.ref a_RUNNING) := Fld.same W9 u7
  have KK9 : Keep h0 h9 [c0_a] := KK5.wr W9 (Or.inl (List.mem_of_getElem? (i := 0) rfl))
  have N9 := Fr.snoc X9 N5 f3
  have u10 : F_4 Z h2 c0_a .null := Fld.other W2 f6 (Or.inr (slot_ne (a0 := a0) (Or.inr (tw_28 hw)) (Or.inr (tw_22 hw)) (by decide) (t := (.object "java/time/Instant")) (t' := (.object "java/lang/String")) (by decide) (by decide)))
  have u11 : F_4 Z h5 c0_a .null := Fld.other W5 u10 (Or.inr (slot_ne (a0 := a0) (Or.inr (tw_28 hw)) (Or.inr (tw_24 hw)) (by decide) (t := (.object "java/time/Instant")) (t' := (.object "java/lang/String")) (by decide) (by decide)))
  have u12 : F_4 Z h9 c0_a .null := Fld.other W9 u11 (Or.inr (slot_ne (a0 := a0) (Or.inr (tw_28 hw)) (Or.inr (tw_26 hw)) (by decide) (t := (.object "java/time/Instant")) (t' := (.object "com/example/corestone/corestone/BulkRequest$Status")) (by decide) (by decide)))
  have u13 : E_1 Z h9 c0_a := Exa.wr W9 u8
  obtain ⟨T14, h14, X14, e14, W14, st14⟩ := putF X9 hx hZ hown (host := "") (Or.inl (tw_27 hw)) Via.refl e9 u12 u13 (Or.inr ⟨(tw_28 hw), rfl, hnm⟩) (tw_8 hw) (ty := (.object "java/time/Instant")) (by decide) rfl rfl (g := (mkF m 22 #[.val (.ref c0_a), .val .null, .val .null, .val (.ref a_RUNNING), .val .null, .val .null, .val (.int 0), .val (.int ((0 : Int32) + p1)), .val (.int ((0 : Int32) + p2)), .val (.int ((0 : Int32) + p3))] [.null, (.ref c0_a)])) rfl rfl (hb hby d2_22)
  have Fw14 : F_4 Z h14 c0_a .null := Fld.same W14 u12
  have KK14 : Keep h0 h14 [c0_a] := KK9.wr W14 (Or.inl (List.mem_of_getElem? (i := 0) rfl))
  have N14 := Fr.snoc X14 N9 f3
  have u15 : F_5 Z h2 c0_a .null := Fld.other W2 f7 (Or.inr (slot_ne (a0 := a0) (Or.inr (tw_30 hw)) (Or.inr (tw_22 hw)) (by decide) (t := (.object "java/time/Instant")) (t' := (.object "java/lang/String")) (by decide) (by decide)))
  have u16 : F_5 Z h5 c0_a .null := Fld.other W5 u15 (Or.inr (slot_ne (a0 := a0) (Or.inr (tw_30 hw)) (Or.inr (tw_24 hw)) (by decide) (t := (.object "java/time/Instant")) (t' := (.object "java/lang/String")) (by decide) (by decide)))
  have u17 : F_5 Z h9 c0_a .null := Fld.other W9 u16 (Or.inr (slot_ne (a0 := a0) (Or.inr (tw_30 hw)) (Or.inr (tw_26 hw)) (by decide) (t := (.object "java/time/Instant")) (t' := (.object "com/example/corestone/corestone/BulkRequest$Status")) (by decide) (by decide)))
  have u18 : F_5 Z h14 c0_a .null := Fld.other W14 u17 (Or.inr (slot_ne (a0 := a0) (Or.inr (tw_30 hw)) (Or.inr (tw_28 hw)) (by decide) (t := (.object "java/time/Instant")) (t' := (.object "java/time/Instant")) (by decide) (by decide)))
  have u19 : E_1 Z h14 c0_a := Exa.wr W14 u13
  obtain ⟨T20, h20, X20, e20, W20, st20⟩ := putF X14 hx hZ hown (host := "") (Or.inl (tw_29 hw)) Via.refl e14 u18 u19 (Or.inr ⟨(tw_30 hw), rfl, hnm⟩) (tw_8 hw) (ty := (.object "java/time/Instant")) (by decide) rfl rfl (g := (mkF m 28 #[.val (.ref c0_a), .val .null, .val .null, .val (.ref a_RUNNING), .val .null, .val .null, .val (.int 0), .val (.int ((0 : Int32) + p1)), .val (.int ((0 : Int32) + p2)), .val (.int ((0 : Int32) + p3))] [.null, (.ref c0_a)])) rfl rfl (hb hby d2_28)
  have Fw20 : F_5 Z h20 c0_a .null := Fld.same W20 u18
  have KK20 : Keep h0 h20 [c0_a] := KK14.wr W20 (Or.inl (List.mem_of_getElem? (i := 0) rfl))
  have N20 := Fr.snoc X20 N14 f3
  have u21 : F_6 Z h2 c0_a (.int 0) := Fld.other W2 f8 (Or.inr (slot_ne (a0 := a0) (Or.inr (tw_32 hw)) (Or.inr (tw_22 hw)) (by decide) (t := .int) (t' := (.object "java/lang/String")) (by decide) (by decide)))
  have u22 : F_6 Z h5 c0_a (.int 0) := Fld.other W5 u21 (Or.inr (slot_ne (a0 := a0) (Or.inr (tw_32 hw)) (Or.inr (tw_24 hw)) (by decide) (t := .int) (t' := (.object "java/lang/String")) (by decide) (by decide)))
  have u23 : F_6 Z h9 c0_a (.int 0) := Fld.other W9 u22 (Or.inr (slot_ne (a0 := a0) (Or.inr (tw_32 hw)) (Or.inr (tw_26 hw)) (by decide) (t := .int) (t' := (.object "com/example/corestone/corestone/BulkRequest$Status")) (by decide) (by decide)))
  have u24 : F_6 Z h14 c0_a (.int 0) := Fld.other W14 u23 (Or.inr (slot_ne (a0 := a0) (Or.inr (tw_32 hw)) (Or.inr (tw_28 hw)) (by decide) (t := .int) (t' := (.object "java/time/Instant")) (by decide) (by decide)))
  have u25 : F_6 Z h20 c0_a (.int 0) := Fld.other W20 u24 (Or.inr (slot_ne (a0 := a0) (Or.inr (tw_32 hw)) (Or.inr (tw_30 hw)) (by decide) (t := .int) (t' := (.object "java/time/Instant")) (by decide) (by decide)))
  have u26 : E_1 Z h20 c0_a := Exa.wr W20 u19
  obtain ⟨T27, h27, X27, e27, W27, st27⟩ := putF X20 hx hZ hown (host := "") (Or.inl (tw_31 hw)) Via.refl e20 u25 u26 (Or.inr ⟨(tw_32 hw), rfl, hnm⟩) (tw_8 hw) (ty := .int) (by decide) rfl rfl (g := (mkF m 34 #[.val (.ref c0_a), .val .null, .val .null, .val (.ref a_RUNNING), .val .null, .val .null, .val (.int 0), .val (.int ((0 : Int32) + p1)), .val (.int ((0 : Int32) + p2)), .val (.int ((0 : Int32) + p3))] [(.int 0), (.ref c0_a)])) rfl rfl (hb hby d2_34)
  have Fw27 : F_6 Z h27 c0_a (.int 0) := Fld.same W27 u25
  have KK27 : Keep h0 h27 [c0_a] := KK20.wr W27 (Or.inl (List.mem_of_getElem? (i := 0) rfl))
  have N27 := Fr.snoc X27 N20 f3
  have u28 : F_7 Z h2 c0_a (.int 0) := Fld.other W2 f9 (Or.inr (slot_ne (a0 := a0) (Or.inr (tw_34 hw)) (Or.inr (tw_22 hw)) (by decide) (t := .int) (t' := (.object "java/lang/String")) (by decide) (by decide)))
  have u29 : F_7 Z h5 c0_a (.int 0) := Fld.other W5 u28 (Or.inr (slot_ne (a0 := a0) (Or.inr (tw_34 hw)) (Or.inr (tw_24 hw)) (by decide) (t := .int) (t' := (.object "java/lang/String")) (by decide) (by decide)))
  have u30 : F_7 Z h9 c0_a (.int 0) := Fld.other W9 u29 (Or.inr (slot_ne (a0 := a0) (Or.inr (tw_34 hw)) (Or.inr (tw_26 hw)) (by decide) (t := .int) (t' := (.object "com/example/corestone/corestone/BulkRequest$Status")) (by decide) (by decide)))
  have u31 : F_7 Z h14 c0_a (.int 0) := Fld.other W14 u30 (Or.inr (slot_ne (a0 := a0) (Or.inr (tw_34 hw)) (Or.inr (tw_28 hw)) (by decide) (t := .int) (t' := (.object "java/time/Instant")) (by decide) (by decide)))
  have u32 : F_7 Z h20 c0_a (.int 0) := Fld.other W20 u31 (Or.inr (slot_ne (a0 := a0) (Or.inr (tw_34 hw)) (Or.inr (tw_30 hw)) (by decide) (t := .int) (t' := (.object "java/time/Instant")) (by decide) (by decide)))
  have u33 : F_7 Z h27 c0_a (.int 0) := Fld.other W27 u32 (Or.inr (slot_ne (a0 := a0) (Or.inr (tw_34 hw)) (Or.inr (tw_32 hw)) (by decide) (t := .int) (t' := .int) (by decide) (by decide)))
  have u34 : E_1 Z h27 c0_a := Exa.wr W27 u26
  obtain ⟨T35, h35, X35, e35, W35, st35⟩ := putF X27 hx hZ hown (host := "") (Or.inl (tw_33 hw)) Via.refl e27 u33 u34 (Or.inr ⟨(tw_34 hw), rfl, hnm⟩) (tw_8 hw) (ty := .int) (by decide) rfl rfl (g := (mkF m 40 #[.val (.ref c0_a), .val .null, .val .null, .val (.ref a_RUNNING), .val .null, .val .null, .val (.int 0), .val (.int ((0 : Int32) + p1)), .val (.int ((0 : Int32) + p2)), .val (.int ((0 : Int32) + p3))] [(.int ((0 : Int32) + p1)), (.ref c0_a)])) rfl rfl (hb hby d2_40)
  have Fw35 : F_7 Z h35 c0_a (.int ((0 : Int32) + p1)) := Fld.same W35 u33
  have KK35 : Keep h0 h35 [c0_a] := KK27.wr W35 (Or.inl (List.mem_of_getElem? (i := 0) rfl))
  have N35 := Fr.snoc X35 N27 f3
  have u36 : F_8 Z h2 c0_a (.int 0) := Fld.other W2 f10 (Or.inr (slot_ne (a0 := a0) (Or.inr (tw_36 hw)) (Or.inr (tw_22 hw)) (by decide) (t := .int) (t' := (.object "java/lang/String")) (by decide) (by decide)))
  have u37 : F_8 Z h5 c0_a (.int 0) := Fld.other W5 u36 (Or.inr (slot_ne (a0 := a0) (Or.inr (tw_36 hw)) (Or.inr (tw_24 hw)) (by decide) (t := .int) (t' := (.object "java/lang/String")) (by decide) (by decide)))
  have u38 : F_8 Z h9 c0_a (.int 0) := Fld.other W9 u37 (Or.inr (slot_ne (a0 := a0) (Or.inr (tw_36 hw)) (Or.inr (tw_26 hw)) (by decide) (t := .int) (t' := (.object "com/example/corestone/corestone/BulkRequest$Status")) (by decide) (by decide)))
  have u39 : F_8 Z h14 c0_a (.int 0) := Fld.other W14 u38 (Or.inr (slot_ne (a0 := a0) (Or.inr (tw_36 hw)) (Or.inr (tw_28 hw)) (by decide) (t := .int) (t' := (.object "java/time/Instant")) (by decide) (by decide)))
  have u40 : F_8 Z h20 c0_a (.int 0) := Fld.other W20 u39 (Or.inr (slot_ne (a0 := a0) (Or.inr (tw_36 hw)) (Or.inr (tw_30 hw)) (by decide) (t := .int) (t' := (.object "java/time/Instant")) (by decide) (by decide)))
  have u41 : F_8 Z h27 c0_a (.int 0) := Fld.other W27 u40 (Or.inr (slot_ne (a0 := a0) (Or.inr (tw_36 hw)) (Or.inr (tw_32 hw)) (by decide) (t := .int) (t' := .int) (by decide) (by decide)))
  have u42 : F_8 Z h35 c0_a (.int 0) := Fld.other W35 u41 (Or.inr (slot_ne (a0 := a0) (Or.inr (tw_36 hw)) (Or.inr (tw_34 hw)) (by decide) (t := .int) (t' := .int) (by decide) (by decide)))
  have u43 : E_1 Z h35 c0_a := Exa.wr W35 u34
  obtain ⟨T44, h44, X44, e44, W44, st44⟩ := putF X35 hx hZ hown (host := "") (Or.inl (tw_35 hw)) Via.refl e35 u42 u43 (Or.inr ⟨(tw_36 hw), rfl, hnm⟩) (tw_8 hw) (ty := .int) (by decide) rfl rfl (g := (mkF m 46 #[.val (.ref c0_a), .val .null, .val .null, .val (.ref a_RUNNING), .val .null, .val .null, .val (.int 0), .val (.int ((0 : Int32) + p1)), .val (.int ((0 : Int32) + p2)), .val (.int ((0 : Int32) + p3))] [(.int ((0 : Int32) + p2)), (.ref c0_a)])) rfl rfl (hb hby d2_46)
  have Fw44 : F_8 Z h44 c0_a (.int ((0 : Int32) + p2)) := Fld.same W44 u42
  have KK44 : Keep h0 h44 [c0_a] := KK35.wr W44 (Or.inl (List.mem_of_getElem? (i := 0) rfl))
  have N44 := Fr.snoc X44 N35 f3
  have u45 : F_9 Z h2 c0_a (.int 0) := Fld.other W2 f11 (Or.inr (slot_ne (a0 := a0) (Or.inr (tw_38 hw)) (Or.inr (tw_22 hw)) (by decide) (t := .int) (t' := (.object "java/lang/String")) (by decide) (by decide)))
  have u46 : F_9 Z h5 c0_a (.int 0) := Fld.other W5 u45 (Or.inr (slot_ne (a0 := a0) (Or.inr (tw_38 hw)) (Or.inr (tw_24 hw)) (by decide) (t := .int) (t' := (.object "java/lang/String")) (by decide) (by decide)))
  have u47 : F_9 Z h9 c0_a (.int 0) := Fld.other W9 u46 (Or.inr (slot_ne (a0 := a0) (Or.inr (tw_38 hw)) (Or.inr (tw_26 hw)) (by decide) (t := .int) (t' := (.object "com/example/corestone/corestone/BulkRequest$Status")) (by decide) (by decide)))
  have u48 : F_9 Z h14 c0_a (.int 0) := Fld.other W14 u47 (Or.inr (slot_ne (a0 := a0) (Or.inr (tw_38 hw)) (Or.inr (tw_28 hw)) (by decide) (t := .int) (t' := (.object "java/time/Instant")) (by decide) (by decide)))
  have u49 : F_9 Z h20 c0_a (.int 0) := Fld.other W20 u48 (Or.inr (slot_ne (a0 := a0) (Or.inr (tw_38 hw)) (Or.inr (tw_30 hw)) (by decide) (t := .int) (t' := (.object "java/time/Instant")) (by decide) (by decide)))
  have u50 : F_9 Z h27 c0_a (.int 0) := Fld.other W27 u49 (Or.inr (slot_ne (a0 := a0) (Or.inr (tw_38 hw)) (Or.inr (tw_32 hw)) (by decide) (t := .int) (t' := .int) (by decide) (by decide)))
  have u51 : F_9 Z h35 c0_a (.int 0) := Fld.other W35 u50 (Or.inr (slot_ne (a0 := a0) (Or.inr (tw_38 hw)) (Or.inr (tw_34 hw)) (by decide) (t := .int) (t' := .int) (by decide) (by decide)))
  have u52 : F_9 Z h44 c0_a (.int 0) := Fld.other W44 u51 (Or.inr (slot_ne (a0 := a0) (Or.inr (tw_38 hw)) (Or.inr (tw_36 hw)) (by decide) (t := .int) (t' := .int) (by decide) (by decide)))
  have u53 : E_1 Z h44 c0_a := Exa.wr W44 u43
  obtain ⟨T54, h54, X54, e54, W54, st54⟩ := putF X44 hx hZ hown (host := "") (Or.inl (tw_37 hw)) Via.refl e44 u52 u53 (Or.inr ⟨(tw_38 hw), rfl, hnm⟩) (tw_8 hw) (ty := .int) (by decide) rfl rfl (g := (mkF m 52 #[.val (.ref c0_a), .val .null, .val .null, .val (.ref a_RUNNING), .val .null, .val .null, .val (.int 0), .val (.int ((0 : Int32) + p1)), .val (.int ((0 : Int32) + p2)), .val (.int ((0 : Int32) + p3))] [(.int ((0 : Int32) + p3)), (.ref c0_a)])) rfl rfl (hb hby d2_52)
  have Fw54 : F_9 Z h54 c0_a (.int ((0 : Int32) + p3)) := Fld.same W54 u52
  have KK54 : Keep h0 h54 [c0_a] := KK44.wr W54 (Or.inl (List.mem_of_getElem? (i := 0) rfl))
  have N54 := Fr.snoc X54 N44 f3
  have u55 : F_1 Z h5 c0_a .null := Fld.other W5 Fw2 (Or.inr (slot_ne (a0 := a0) (Or.inr (tw_22 hw)) (Or.inr (tw_24 hw)) (by decide) (t := (.object "java/lang/String")) (t' := (.object "java/lang/String")) (by decide) (by decide)))
  have u56 : F_1 Z h9 c0_a .null := Fld.other W9 u55 (Or.inr (slot_ne (a0 := a0) (Or.inr (tw_22 hw)) (Or.inr (tw_26 hw)) (by decide) (t := (.object "java/lang/String")) (t' := (.object "com/example/corestone/corestone/BulkRequest$Status")) (by decide) (by decide)))
  have u57 : F_1 Z h14 c0_a .null := Fld.other W14 u56 (Or.inr (slot_ne (a0 := a0) (Or.inr (tw_22 hw)) (Or.inr (tw_28 hw)) (by decide) (t := (.object "java/lang/String")) (t' := (.object "java/time/Instant")) (by decide) (by decide)))
  have u58 : F_1 Z h20 c0_a .null := Fld.other W20 u57 (Or.inr (slot_ne (a0 := a0) (Or.inr (tw_22 hw)) (Or.inr (tw_30 hw)) (by decide) (t := (.object "java/lang/String")) (t' := (.object "java/time/Instant")) (by decide) (by decide)))
  have u59 : F_1 Z h27 c0_a .null := Fld.other W27 u58 (Or.inr (slot_ne (a0 := a0) (Or.inr (tw_22 hw)) (Or.inr (tw_32 hw)) (by decide) (t := (.object "java/lang/String")) (t' := .int) (by decide) (by decide)))
  have u60 : F_1 Z h35 c0_a .null := Fld.other W35 u59 (Or.inr (slot_ne (a0 := a0) (Or.inr (tw_22 hw)) (Or.inr (tw_34 hw)) (by decide) (t := (.object "java/lang/String")) (t' := .int) (by decide) (by decide)))
  have u61 : F_1 Z h44 c0_a .null := Fld.other W44 u60 (Or.inr (slot_ne (a0 := a0) (Or.inr (tw_22 hw)) (Or.inr (tw_36 hw)) (by decide) (t := (.object "java/lang/String")) (t' := .int) (by decide) (by decide)))
  have u62 : F_1 Z h54 c0_a .null := Fld.other W54 u61 (Or.inr (slot_ne (a0 := a0) (Or.inr (tw_22 hw)) (Or.inr (tw_38 hw)) (by decide) (t := (.object "java/lang/String")) (t' := .int) (by decide) (by decide)))
  have u63 : F_2 Z h9 c0_a .null := Fld.other W9 Fw5 (Or.inr (slot_ne (a0 := a0) (Or.inr (tw_24 hw)) (Or.inr (tw_26 hw)) (by decide) (t := (.object "java/lang/String")) (t' := (.object "com/example/corestone/corestone/BulkRequest$Status")) (by decide) (by decide)))
  have u64 : F_2 Z h14 c0_a .null := Fld.other W14 u63 (Or.inr (slot_ne (a0 := a0) (Or.inr (tw_24 hw)) (Or.inr (tw_28 hw)) (by decide) (t := (.object "java/lang/String")) (t' := (.object "java/time/Instant")) (by decide) (by decide)))
  have u65 : F_2 Z h20 c0_a .null := Fld.other W20 u64 (Or.inr (slot_ne (a0 := a0) (Or.inr (tw_24 hw)) (Or.inr (tw_30 hw)) (by decide) (t := (.object "java/lang/String")) (t' := (.object "java/time/Instant")) (by decide) (by decide)))
  have u66 : F_2 Z h27 c0_a .null := Fld.other W27 u65 (Or.inr (slot_ne (a0 := a0) (Or.inr (tw_24 hw)) (Or.inr (tw_32 hw)) (by decide) (t := (.object "java/lang/String")) (t' := .int) (by decide) (by decide)))
  have u67 : F_2 Z h35 c0_a .null := Fld.other W35 u66 (Or.inr (slot_ne (a0 := a0) (Or.inr (tw_24 hw)) (Or.inr (tw_34 hw)) (by decide) (t := (.object "java/lang/String")) (t' := .int) (by decide) (by decide)))
  have u68 : F_2 Z h44 c0_a .null := Fld.other W44 u67 (Or.inr (slot_ne (a0 := a0) (Or.inr (tw_24 hw)) (Or.inr (tw_36 hw)) (by decide) (t := (.object "java/lang/String")) (t' := .int) (by decide) (by decide)))
  have u69 : F_2 Z h54 c0_a .null := Fld.other W54 u68 (Or.inr (slot_ne (a0 := a0) (Or.inr (tw_24 hw)) (Or.inr (tw_38 hw)) (by decide) (t := (.object "java/lang/String")) (t' := .int) (by decide) (by decide)))
  have u70 : F_3 Z h14 c0_a (.ref a_RUNNING) := Fld.other W14 Fw9 (Or.inr (slot_ne (a0 := a0) (Or.inr (tw_26 hw)) (Or.inr (tw_28 hw)) (by decide) (t := (.object "com/example/corestone/corestone/BulkRequest$Status")) (t' := (.object "java/time/Instant")) (by decide) (by decide)))
  have u71 : F_3 Z h20 c0_a (.ref a_RUNNING) := Fld.other W20 u70 (Or.inr (slot_ne (a0 := a0) (Or.inr (tw_26 hw)) (Or.inr (tw_30 hw)) (by decide) (t := (.object "com/example/corestone/corestone/BulkRequest$Status")) (t' := (.object "java/time/Instant")) (by decide) (by decide)))
  have u72 : F_3 Z h27 c0_a (.ref a_RUNNING) := Fld.other W27 u71 (Or.inr (slot_ne (a0 := a0) (Or.inr (tw_26 hw)) (Or.inr (tw_32 hw)) (by decide) (t := (.object "com/example/corestone/corestone/BulkRequest$Status")) (t' := .int) (by decide) (by decide)))
  have u73 : F_3 Z h35 c0_a (.ref a_RUNNING) := Fld.other W35 u72 (Or.inr (slot_ne (a0 := a0) (Or.inr (tw_26 hw)) (Or.inr (tw_34 hw)) (by decide) (t := (.object "com/example/corestone/corestone/BulkRequest$Status")) (t' := .int) (by decide) (by decide)))
  have u74 : F_3 Z h44 c0_a (.ref a_RUNNING) := Fld.other W44 u73 (Or.inr (slot_ne (a0 := a0) (Or.inr (tw_26 hw)) (Or.inr (tw_36 hw)) (by decide) (t := (.object "com/example/corestone/corestone/BulkRequest$Status")) (t' := .int) (by decide) (by decide)))
  have u75 : F_3 Z h54 c0_a (.ref a_RUNNING) := Fld.other W54 u74 (Or.inr (slot_ne (a0 := a0) (Or.inr (tw_26 hw)) (Or.inr (tw_38 hw)) (by decide) (t := (.object "com/example/corestone/corestone/BulkRequest$Status")) (t' := .int) (by decide) (by decide)))
  have u76 : F_4 Z h20 c0_a .null := Fld.other W20 Fw14 (Or.inr (slot_ne (a0 := a0) (Or.inr (tw_28 hw)) (Or.inr (tw_30 hw)) (by decide) (t := (.object "java/time/Instant")) (t' := (.object "java/time/Instant")) (by decide) (by decide)))
  have u77 : F_4 Z h27 c0_a .null := Fld.other W27 u76 (Or.inr (slot_ne (a0 := a0) (Or.inr (tw_28 hw)) (Or.inr (tw_32 hw)) (by decide) (t := (.object "java/time/Instant")) (t' := .int) (by decide) (by decide)))
  have u78 : F_4 Z h35 c0_a .null := Fld.other W35 u77 (Or.inr (slot_ne (a0 := a0) (Or.inr (tw_28 hw)) (Or.inr (tw_34 hw)) (by decide) (t := (.object "java/time/Instant")) (t' := .int) (by decide) (by decide)))
  have u79 : F_4 Z h44 c0_a .null := Fld.other W44 u78 (Or.inr (slot_ne (a0 := a0) (Or.inr (tw_28 hw)) (Or.inr (tw_36 hw)) (by decide) (t := (.object "java/time/Instant")) (t' := .int) (by decide) (by decide)))
  have u80 : F_4 Z h54 c0_a .null := Fld.other W54 u79 (Or.inr (slot_ne (a0 := a0) (Or.inr (tw_28 hw)) (Or.inr (tw_38 hw)) (by decide) (t := (.object "java/time/Instant")) (t' := .int) (by decide) (by decide)))
  have u81 : F_5 Z h27 c0_a .null := Fld.other W27 Fw20 (Or.inr (slot_ne (a0 := a0) (Or.inr (tw_30 hw)) (Or.inr (tw_32 hw)) (by decide) (t := (.object "java/time/Instant")) (t' := .int) (by decide) (by decide)))
  have u82 : F_5 Z h35 c0_a .null := Fld.other W35 u81 (Or.inr (slot_ne (a0 := a0) (Or.inr (tw_30 hw)) (Or.inr (tw_34 hw)) (by decide) (t := (.object "java/time/Instant")) (t' := .int) (by decide) (by decide)))
  have u83 : F_5 Z h44 c0_a .null := Fld.other W44 u82 (Or.inr (slot_ne (a0 := a0) (Or.inr (tw_30 hw)) (Or.inr (tw_36 hw)) (by decide) (t := (.object "java/time/Instant")) (t' := .int) (by decide) (by decide)))
  have u84 : F_5 Z h54 c0_a .null := Fld.other W54 u83 (Or.inr (slot_ne (a0 := a0) (Or.inr (tw_30 hw)) (Or.inr (tw_38 hw)) (by decide) (t := (.object "java/time/Instant")) (t' := .int) (by decide) (by decide)))
  have u85 : F_6 Z h35 c0_a (.int 0) := Fld.other W35 Fw27 (Or.inr (slot_ne (a0 := a0) (Or.inr (tw_32 hw)) (Or.inr (tw_34 hw)) (by decide) (t := .int) (t' := .int) (by decide) (by decide)))
  have u86 : F_6 Z h44 c0_a (.int 0) := Fld.other W44 u85 (Or.inr (slot_ne (a0 := a0) (Or.inr (tw_32 hw)) (Or.inr (tw_36 hw)) (by decide) (t := .int) (t' := .int) (by decide) (by decide)))
  have u87 : F_6 Z h54 c0_a (.int 0) := Fld.other W54 u86 (Or.inr (slot_ne (a0 := a0) (Or.inr (tw_32 hw)) (Or.inr (tw_38 hw)) (by decide) (t := .int) (t' := .int) (by decide) (by decide)))
  have u88 : F_7 Z h44 c0_a (.int ((0 : Int32) + p1)) := Fld.other W44 Fw35 (Or.inr (slot_ne (a0 := a0) (Or.inr (tw_34 hw)) (Or.inr (tw_36 hw)) (by decide) (t := .int) (t' := .int) (by decide) (by decide)))
  have u89 : F_7 Z h54 c0_a (.int ((0 : Int32) + p1)) := Fld.other W54 u88 (Or.inr (slot_ne (a0 := a0) (Or.inr (tw_34 hw)) (Or.inr (tw_38 hw)) (by decide) (t := .int) (t' := .int) (by decide) (by decide)))
  have u90 : F_8 Z h54 c0_a (.int ((0 : Int32) + p2)) := Fld.other W54 Fw44 (Or.inr (slot_ne (a0 := a0) (Or.inr (tw_36 hw)) (Or.inr (tw_38 hw)) (by decide) (t := .int) (t' := .int) (by decide) (by decide)))
  obtain ⟨fs, hr, hrun, hended, hW, hsame⟩ := X54.leave (v := none) (fun _ => rfl)
  refine ⟨_, _, castTop (ef2_RnnRnnIIII m c0_a a_RUNNING (0 : Int32) ((0 : Int32) + p1) ((0 : Int32) + p2) ((0 : Int32) + p3)) ?_, hrun, hended, _, _, rfl, ?_, ⟨_, rfl⟩, hW, hsame.mono (by decide) (by decide)⟩
  · show Steps p.tables e below (s₁.setTop (mkF m 0 #[.val (.ref c0_a), .val .null, .val .null, .val (.ref a_RUNNING), .val .null, .val .null, .val (.int 0), .val (.int ((0 : Int32) + p1)), .val (.int ((0 : Int32) + p2)), .val (.int ((0 : Int32) + p3))] [])) _
    refine XS.aloadN X0.here hx rfl (hb hby d2_0) rfl rfl ?_
    show Steps p.tables e below (s₁.setTop (mkF m 1 #[.val (.ref c0_a), .val .null, .val .null, .val (.ref a_RUNNING), .val .null, .val .null, .val (.int 0), .val (.int ((0 : Int32) + p1)), .val (.int ((0 : Int32) + p2)), .val (.int ((0 : Int32) + p3))] [(.ref c0_a)])) _
    refine st1.trans ?_
    refine XS.aloadN X1.here hx rfl (hb hby d2_4) rfl rfl ?_
    refine XS.aloadN X1.here hx rfl (hb hby d2_5) rfl rfl ?_
    show Steps p.tables e below (T1.setTop (mkF m 6 #[.val (.ref c0_a), .val .null, .val .null, .val (.ref a_RUNNING), .val .null, .val .null, .val (.int 0), .val (.int ((0 : Int32) + p1)), .val (.int ((0 : Int32) + p2)), .val (.int ((0 : Int32) + p3))] [.null, (.ref c0_a)])) _
    refine st2 _ ?_
    refine XS.aloadN X2.here hx rfl (hb hby d2_9) rfl rfl ?_
    refine XS.aloadN X2.here hx rfl (hb hby d2_10) rfl rfl ?_
    show Steps p.tables e below (T2.setTop (mkF m 11 #[.val (.ref c0_a), .val .null, .val .null, .val (.ref a_RUNNING), .val .null, .val .null, .val (.int 0), .val (.int ((0 : Int32) + p1)), .val (.int ((0 : Int32) + p2)), .val (.int ((0 : Int32) + p3))] [.null, (.ref c0_a)])) _
    refine st5 _ ?_
    refine XS.aloadN X5.here hx rfl (hb hby d2_14) rfl rfl ?_
    refine XS.aloadN X5.here hx rfl (hb hby d2_15) rfl rfl ?_
    show Steps p.tables e below (T5.setTop (mkF m 16 #[.val (.ref c0_a), .val .null, .val .null, .val (.ref a_RUNNING), .val .null, .val .null, .val (.int 0), .val (.int ((0 : Int32) + p1)), .val (.int ((0 : Int32) + p2)), .val (.int ((0 : Int32) + p3))] [(.ref a_RUNNING), (.ref c0_a)])) _
    refine st9 _ ?_
    refine XS.aloadN X9.here hx rfl (hb hby d2_19) rfl rfl ?_
    refine XS.aload X9.here hx rfl (hb hby d2_20) rfl rfl ?_
    show Steps p.tables e below (T9.setTop (mkF m 22 #[.val (.ref c0_a), .val .null, .val .null, .val (.ref a_RUNNING), .val .null, .val .null, .val (.int 0), .val (.int ((0 : Int32) + p1)), .val (.int ((0 : Int32) + p2)), .val (.int ((0 : Int32) + p3))] [.null, (.ref c0_a)])) _
    refine st14 _ ?_
    refine XS.aloadN X14.here hx rfl (hb hby d2_25) rfl rfl ?_
    refine XS.aload X14.here hx rfl (hb hby d2_26) rfl rfl ?_
    show Steps p.tables e below (T14.setTop (mkF m 28 #[.val (.ref c0_a), .val .null, .val .null, .val (.ref a_RUNNING), .val .null, .val .null, .val (.int 0), .val (.int ((0 : Int32) + p1)), .val (.int ((0 : Int32) + p2)), .val (.int ((0 : Int32) + p3))] [.null, (.ref c0_a)])) _
    refine st20 _ ?_
    refine XS.aloadN X20.here hx rfl (hb hby d2_31) rfl rfl ?_
    refine XS.iload X20.here hx rfl (hb hby d2_32) rfl ?_
    show Steps p.tables e below (T20.setTop (mkF m 34 #[.val (.ref c0_a), .val .null, .val .null, .val (.ref a_RUNNING), .val .null, .val .null, .val (.int 0), .val (.int ((0 : Int32) + p1)), .val (.int ((0 : Int32) + p2)), .val (.int ((0 : Int32) + p3))] [(.int 0), (.ref c0_a)])) _
    refine st27 _ ?_
    refine XS.aloadN X27.here hx rfl (hb hby d2_37) rfl rfl ?_
    refine XS.iload X27.here hx rfl (hb hby d2_38) rfl ?_
    show Steps p.tables e below (T27.setTop (mkF m 40 #[.val (.ref c0_a), .val .null, .val .null, .val (.ref a_RUNNING), .val .null, .val .null, .val (.int 0), .val (.int ((0 : Int32) + p1)), .val (.int ((0 : Int32) + p2)), .val (.int ((0 : Int32) + p3))] [(.int ((0 : Int32) + p1)), (.ref c0_a)])) _
    refine st35 _ ?_
    refine XS.aloadN X35.here hx rfl (hb hby d2_43) rfl rfl ?_
    refine XS.iload X35.here hx rfl (hb hby d2_44) rfl ?_
    show Steps p.tables e below (T35.setTop (mkF m 46 #[.val (.ref c0_a), .val .null, .val .null, .val (.ref a_RUNNING), .val .null, .val .null, .val (.int 0), .val (.int ((0 : Int32) + p1)), .val (.int ((0 : Int32) + p2)), .val (.int ((0 : Int32) + p3))] [(.int ((0 : Int32) + p2)), (.ref c0_a)])) _
    refine st44 _ ?_
    refine XS.aloadN X44.here hx rfl (hb hby d2_49) rfl rfl ?_
    refine XS.iload X44.here hx rfl (hb hby d2_50) rfl ?_
    show Steps p.tables e below (T44.setTop (mkF m 52 #[.val (.ref c0_a), .val .null, .val .null, .val (.ref a_RUNNING), .val .null, .val .null, .val (.int 0), .val (.int ((0 : Int32) + p1)), .val (.int ((0 : Int32) + p2)), .val (.int ((0 : Int32) + p3))] [(.int ((0 : Int32) + p3)), (.ref c0_a)])) _
    refine st54 _ ?_
    show Steps p.tables e below (T54.setTop (mkF m 55 #[.val (.ref c0_a), .val .null, .val .null, .val (.ref a_RUNNING), .val .null, .val .null, .val (.int 0), .val (.int ((0 : Int32) + p1)), .val (.int ((0 : Int32) + p2)), .val (.int ((0 : Int32) + p3))] [])) _
    exact X54.returnOut hx Bd.returns (hb hby d2_55) hr
  · show Q2_24 Z c0_a a_RUNNING p1 p2 p3 h0 n0 _ T54.heap _
    rw [e54]
    exact ⟨rfl, N54, KK54, u62, u69, u75, u80, u84, u87, u89, u90, Fw54⟩
theorem d5_46 : decode prog_2_method_4_code 46 = .ok (.areturn, 1) := by decide +kernel
abbrev M_3 : MethodName := ⟨"com/example/corestone/corestone/BulkRequest", "running", "(IIILjava/time/Instant;)Lcom/example/corestone/corestone/BulkRequest;"⟩
theorem ef5_RIIIn (m : MethodId) (x0 : Addr) (x1 : Int32) (x2 : Int32) (x3 : Int32) : entryFrame m #[(.ref x0), (.int x1), (.int x2), (.int x3), .null] 5 = mkF m 0 #[.val (.ref x0), .val (.int x1), .val (.int x2), .val (.int x3), .val .null] [] := by first | (simp [entryFrame, mkF, argsToLocals, Value.category]; done) | rfl
def Q5_26 (Z : State) (a_RUNNING : Addr) (p1 : Int32) (p2 : Int32) (p3 : Int32) (h0 : Heap) (n0 : Nat) (v : Option Value) (h : Heap) (L : List Loc) : Prop := ∃ (b22 : Addr), v = (some (.ref b22)) ∧ Fr n0 L ∧ Keep h0 h [] ∧ h0.size ≤ b22 ∧ E_1 Z h b22 ∧ F_1 Z h b22 .null ∧ F_2 Z h b22 .null ∧ F_3 Z h b22 (.ref a_RUNNING) ∧ F_4 Z h b22 .null ∧ F_5 Z h b22 .null ∧ F_6 Z h b22 (.int 0) ∧ F_7 Z h b22 (.int ((0 : Int32) + p1)) ∧ F_8 Z h b22 (.int ((0 : Int32) + p2)) ∧ F_9 Z h b22 (.int ((0 : Int32) + p3))
set_option maxRecDepth 65536 in
set_option maxHeartbeats 40000000 in
theorem rm5_25 (l : Launch) (Z : State) (a0 : Array Value) (hw : ∀ d ∈ tables_1, d.before a0 Z = true) (ws : List Jvm.Cond) (c0_a : Addr) (p1 : Int32) (p2 : Int32) (p3 : Int32) (a_RUNNING : Addr) (h0 : Heap) (n0 : Nat) (Z0 : n0 ≤ h0.size) (f1 : F_1 Z h0 c0_a .null) (f2 : F_2 Z h0 c0_a .null) (f3 : S_1 Z h0 (.ref a_RUNNING)) (f4 : F_4 Z h0 c0_a .null) (f5 : F_6 Z h0 c0_a (.int 0)) (f6 : F_7 Z h0 c0_a (.int 0)) (f7 : F_8 Z h0 c0_a (.int 0)) (f8 : F_9 Z h0 c0_a (.int 0)) :
    MetFree l M_3 (head1 (Jvm.Cond.code M_3 prog_2_method_4_code 5 (some (.object "com/example/corestone/corestone/BulkRequest")) :: ws) R_3_1_9_46) (fun a U => a = #[(.ref c0_a), (.int p1), (.int p2), (.int p3), .null] ∧ Z.Warmed39 U.vm ∧ U.heap = h0) (fun _ _ _ _ _ => True) (fun _ U o U' => ∃ v L, o = .returned v ∧ Q5_26 Z a_RUNNING p1 p2 p3 h0 n0 v U'.heap L ∧ FrameEnd U o U' L R_3_1_9_46.cells R_3_1_9_46.slots) := by
  refine MetFree.of_bodySF (plainFor_of_name pn_com_example_corestone_corestone_BulkRequest) hisR ?_
  intro p e s m args below meth c s₁ Bd hml0 hP hK
  obtain ⟨rfl, hZ, hh⟩ := hP
  have hx := Bd.exec
  have hby := Bd.bytes
  have hml : c.maxLocals = 5 := hml0
  have hown : s.vm.findClass "com/example/corestone/corestone/BulkRequest" = some m.cls := findClass_of_methodNamed Bd.named
  have hnm := (name_of_methodNamed Bd.named Bd.method).1
  have X0 : Stand p l e R_3_1_9_46 s m #[(.ref c0_a), (.int p1), (.int p2), (.int p3), .null] below meth c s₁ [] 0 0 := Stand.of_body Bd
  have e0 : s₁.heap = h0 := by rw [← hh, Bd.state]; rfl
  have N0 := Fr.nil n0
  obtain ⟨T1, h1, X1, e1, E1, A1, D1, -, st1⟩ := newO X0 hx hZ hown (tw_7 hw) (tw_8 hw) (tw_5 hw) e0 (g := (mkF m 0 #[.val (.ref c0_a), .val (.int p1), .val (.int p2), .val (.int p3), .val .null] [])) rfl (hb hby d5_0) (by decide) (by decide)
  obtain ⟨b22, g1⟩ : ∃ z, z = h0.size := ⟨_, rfl⟩
  rw [← g1] at A1 D1 st1
  have sz_b22 : h0.size ≤ b22 := Nat.le_trans (Nat.le_refl _) (Nat.le_of_eq g1.symm)
  have g_b22 : n0 ≤ b22 := Nat.le_trans Z0 sz_b22
  have KK1 : Keep h0 h1 [] := (Keep.refl h0 []).ext E1
  have F1_22 : F_1 Z h1 b22 .null := D1 (Or.inr (tw_22 hw)) (ty := (.object "java/lang/String")) (by decide)
  have F1_24 : F_2 Z h1 b22 .null := D1 (Or.inr (tw_24 hw)) (ty := (.object "java/lang/String")) (by decide)
  have F1_26 : F_3 Z h1 b22 .null := D1 (Or.inr (tw_26 hw)) (ty := (.object "com/example/corestone/corestone/BulkRequest$Status")) (by decide)
  have F1_28 : F_4 Z h1 b22 .null := D1 (Or.inr (tw_28 hw)) (ty := (.object "java/time/Instant")) (by decide)
  have F1_30 : F_5 Z h1 b22 .null := D1 (Or.inr (tw_30 hw)) (ty := (.object "java/time/Instant")) (by decide)
  have F1_32 : F_6 Z h1 b22 (.int 0) := D1 (Or.inr (tw_32 hw)) (ty := .int) (by decide)
  have F1_34 : F_7 Z h1 b22 (.int 0) := D1 (Or.inr (tw_34 hw)) (ty := .int) (by decide)
  have F1_36 : F_8 Z h1 b22 (.int 0) := D1 (Or.inr (tw_36 hw)) (ty := .int) (by decide)
  have F1_38 : F_9 Z h1 b22 (.int 0) := D1 (Or.inr (tw_38 hw)) (ty := .int) (by decide)
  have u2 : F_1 Z h1 c0_a .null := Fld.ext E1 f1
  obtain ⟨T3, X3, e3, st3⟩ := getF X1 hx hZ hown (host := "") (Or.inl (tw_21 hw)) Via.refl e1 u2 (g := (mkF m 5 #[.val (.ref c0_a), .val (.int p1), .val (.int p2), .val (.int p3), .val .null] [(.ref c0_a), (.ref b22), (.ref b22)])) rfl rfl (hb hby d5_5)
  have u4 : F_2 Z h1 c0_a .null := Fld.ext E1 f2
  obtain ⟨T5, X5, e5, st5⟩ := getF X3 hx hZ hown (host := "") (Or.inl (tw_23 hw)) Via.refl e3 u4 (g := (mkF m 9 #[.val (.ref c0_a), .val (.int p1), .val (.int p2), .val (.int p3), .val .null] [(.ref c0_a), .null, (.ref b22), (.ref b22)])) rfl rfl (hb hby d5_9)
  have u6 : S_1 Z h1 (.ref a_RUNNING) := Sta.ext E1 f3
  obtain ⟨T7, X7, e7, st7⟩ := getS2 X5 hx hZ hown (host := "") (Or.inl (tw_44 hw)) Via.refl e5 u6 (g := (mkF m 12 #[.val (.ref c0_a), .val (.int p1), .val (.int p2), .val (.int p3), .val .null] [.null, .null, (.ref b22), (.ref b22)])) rfl (hb hby d5_12)
  have u8 : F_4 Z h1 c0_a .null := Fld.ext E1 f4
  obtain ⟨T9, X9, e9, st9⟩ := getF X7 hx hZ hown (host := "") (Or.inl (tw_27 hw)) Via.refl e7 u8 (g := (mkF m 16 #[.val (.ref c0_a), .val (.int p1), .val (.int p2), .val (.int p3), .val .null] [(.ref c0_a), (.ref a_RUNNING), .null, .null, (.ref b22), (.ref b22)])) rfl rfl (hb hby d5_16)
  have u10 : F_6 Z h1 c0_a (.int 0) := Fld.ext E1 f5
  obtain ⟨T11, X11, e11, st11⟩ := getF X9 hx hZ hown (host := "") (Or.inl (tw_31 hw)) Via.refl e9 u10 (g := (mkF m 22 #[.val (.ref c0_a), .val (.int p1), .val (.int p2), .val (.int p3), .val .null] [(.ref c0_a), .null, .null, (.ref a_RUNNING), .null, .null, (.ref b22), (.ref b22)])) rfl rfl (hb hby d5_22)
  have u12 : F_7 Z h1 c0_a (.int 0) := Fld.ext E1 f6
  obtain ⟨T13, X13, e13, st13⟩ := getF X11 hx hZ hown (host := "") (Or.inl (tw_33 hw)) Via.refl e11 u12 (g := (mkF m 26 #[.val (.ref c0_a), .val (.int p1), .val (.int p2), .val (.int p3), .val .null] [(.ref c0_a), (.int 0), .null, .null, (.ref a_RUNNING), .null, .null, (.ref b22), (.ref b22)])) rfl rfl (hb hby d5_26)
  have u14 : F_8 Z h1 c0_a (.int 0) := Fld.ext E1 f7
  obtain ⟨T15, X15, e15, st15⟩ := getF X13 hx hZ hown (host := "") (Or.inl (tw_35 hw)) Via.refl e13 u14 (g := (mkF m 32 #[.val (.ref c0_a), .val (.int p1), .val (.int p2), .val (.int p3), .val .null] [(.ref c0_a), (.int ((0 : Int32) + p1)), (.int 0), .null, .null, (.ref a_RUNNING), .null, .null, (.ref b22), (.ref b22)])) rfl rfl (hb hby d5_32)
  have u16 : F_9 Z h1 c0_a (.int 0) := Fld.ext E1 f8
  obtain ⟨T17, X17, e17, st17⟩ := getF X15 hx hZ hown (host := "") (Or.inl (tw_37 hw)) Via.refl e15 u16 (g := (mkF m 38 #[.val (.ref c0_a), .val (.int p1), .val (.int p2), .val (.int p3), .val .null] [(.ref c0_a), (.int ((0 : Int32) + p2)), (.int ((0 : Int32) + p1)), (.int 0), .null, .null, (.ref a_RUNNING), .null, .null, (.ref b22), (.ref b22)])) rfl rfl (hb hby d5_38)
  -- pc 43: com/example/corestone/corestone/BulkRequest.<init>
  obtain ⟨_, _, ⟨T18, L18, k18, n18⟩, -, X18, ⟨Lc18, hQ18, l18, y18, z18⟩, st18⟩ := X17.specialBack hx (y := M_1) rfl hown (mvT hZ (tw_10 hw)) (mvT hZ (tw_11 hw)) (mvT hZ (tw_12 hw)) (by decide) (backOf (W := 1) (rm2_23 l Z a0 hw [] b22 a_RUNNING p1 p2 p3 h1 n0 (Nat.le_trans Z0 KK1.1) F1_22 A1 g_b22 F1_24 F1_26 F1_28 F1_30 F1_32 F1_34 F1_36 F1_38) hZ (tw_12 hw) (tw_5 hw) (by decide) (by decide)) (g := (mkF m 43 #[.val (.ref c0_a), .val (.int p1), .val (.int p2), .val (.int p3), .val .null] [(.int ((0 : Int32) + p3)), (.int ((0 : Int32) + p2)), (.int ((0 : Int32) + p1)), (.int 0), .null, .null, (.ref a_RUNNING), .null, .null, (.ref b22), (.ref b22)])) rfl (by rw [hml]; rfl) (Steps.refl _) (a := b22) (argsL := [.null, .null, (.ref a_RUNNING), .null, .null, (.int 0), (.int ((0 : Int32) + p1)), (.int ((0 : Int32) + p2)), (.int ((0 : Int32) + p3))]) (rest := [(.ref b22)]) (lenOf pd_1 rfl) rfl (by show 2 * 0 + _ ≤ _; exact Nat.le_of_eq rfl) (hb hby d5_43) (fun _ _ => ⟨rfl, e17, (by decide : 1 + 0 ≤ _), (by decide : 9 + 0 ≤ _)⟩)
  dsimp only [Pt.U, Pt.locs, Pt.cells, Pt.slots] at X18 l18 y18 z18 st18 hQ18
  subst l18 y18 z18
  obtain ⟨rfl, Nq18, K18, o18_0, o18_1, o18_2, o18_3, o18_4, o18_5, o18_6, o18_7, o18_8⟩ := hQ18
  have N18 := Fr.app N0 Nq18
  have KK18 : Keep h0 T18.heap [] := KK1.trans K18 (fun x hx => (List.mem_cons.mp hx).elim (fun q => q ▸ (Or.inr sz_b22)) (fun hx => nomatch hx))
  have u19 : E_1 Z T18.heap b22 := Exa.keep A1 K18
  obtain ⟨fs, hr, hrun, hended, hW, hsame⟩ := X18.leave (v := (some (.ref b22))) (fun h => by rw [Bd.returns] at h; cases h)
  refine ⟨_, _, castTop (ef5_RIIIn m c0_a p1 p2 p3) ?_, hrun, hended, _, _, rfl, ?_, ⟨_, rfl⟩, hW, hsame.mono (by decide) (by decide)⟩
  · show Steps p.tables e below (s₁.setTop (mkF m 0 #[.val (.ref c0_a), .val (.int p1), .val (.int p2), .val (.int p3), .val .null] [])) _
    refine st1 _ ?_
    refine XS.dup X1.here hx rfl (hb hby d5_3) rfl rfl ?_
    refine XS.aloadN X1.here hx rfl (hb hby d5_4) rfl rfl ?_
    show Steps p.tables e below (T1.setTop (mkF m 5 #[.val (.ref c0_a), .val (.int p1), .val (.int p2), .val (.int p3), .val .null] [(.ref c0_a), (.ref b22), (.ref b22)])) _
    refine st3 _ ?_
    refine XS.aloadN X3.here hx rfl (hb hby d5_8) rfl rfl ?_
    show Steps p.tables e below (T3.setTop (mkF m 9 #[.val (.ref c0_a), .val (.int p1), .val (.int p2), .val (.int p3), .val .null] [(.ref c0_a), .null, (.ref b22), (.ref b22)])) _
    refine st5 _ ?_
    show Steps p.tables e below (T5.setTop (mkF m 12 #[.val (.ref c0_a), .val (.int p1), .val (.int p2), .val (.int p3), .val .null] [.null, .null, (.ref b22), (.ref b22)])) _
    refine st7 _ ?_
    refine XS.aloadN X7.here hx rfl (hb hby d5_15) rfl rfl ?_
    show Steps p.tables e below (T7.setTop (mkF m 16 #[.val (.ref c0_a), .val (.int p1), .val (.int p2), .val (.int p3), .val .null] [(.ref c0_a), (.ref a_RUNNING), .null, .null, (.ref b22), (.ref b22)])) _
    refine st9 _ ?_
    refine XS.aload X9.here hx rfl (hb hby d5_19) rfl rfl ?_
    refine XS.aloadN X9.here hx rfl (hb hby d5_21) rfl rfl ?_
    show Steps p.tables e below (T9.setTop (mkF m 22 #[.val (.ref c0_a), .val (.int p1), .val (.int p2), .val (.int p3), .val .null] [(.ref c0_a), .null, .null, (.ref a_RUNNING), .null, .null, (.ref b22), (.ref b22)])) _
    refine st11 _ ?_
    refine XS.aloadN X11.here hx rfl (hb hby d5_25) rfl rfl ?_
    show Steps p.tables e below (T11.setTop (mkF m 26 #[.val (.ref c0_a), .val (.int p1), .val (.int p2), .val (.int p3), .val .null] [(.ref c0_a), (.int 0), .null, .null, (.ref a_RUNNING), .null, .null, (.ref b22), (.ref b22)])) _
    refine st13 _ ?_
    refine XS.iloadN X13.here hx rfl (hb hby d5_29) rfl ?_
    show Steps p.tables e below (T13.setTop (mkF m 30 #[.val (.ref c0_a), .val (.int p1), .val (.int p2), .val (.int p3), .val .null] [(.int p1), (.int 0), (.int 0), .null, .null, (.ref a_RUNNING), .null, .null, (.ref b22), (.ref b22)])) _
    refine XS.iadd X13.here hx rfl (hb hby d5_30) rfl ?_
    refine XS.aloadN X13.here hx rfl (hb hby d5_31) rfl rfl ?_
    show Steps p.tables e below (T13.setTop (mkF m 32 #[.val (.ref c0_a), .val (.int p1), .val (.int p2), .val (.int p3), .val .null] [(.ref c0_a), (.int ((0 : Int32) + p1)), (.int 0), .null, .null, (.ref a_RUNNING), .null, .null, (.ref b22), (.ref b22)])) _
    refine st15 _ ?_
    refine XS.iloadN X15.here hx rfl (hb hby d5_35) rfl ?_
    show Steps p.tables e below (T15.setTop (mkF m 36 #[.val (.ref c0_a), .val (.int p1), .val (.int p2), .val (.int p3), .val .null] [(.int p2), (.int 0), (.int ((0 : Int32) + p1)), (.int 0), .null, .null, (.ref a_RUNNING), .null, .null, (.ref b22), (.ref b22)])) _
    refine XS.iadd X15.here hx rfl (hb hby d5_36) rfl ?_
    refine XS.aloadN X15.here hx rfl (hb hby d5_37) rfl rfl ?_
    show Steps p.tables e below (T15.setTop (mkF m 38 #[.val (.ref c0_a), .val (.int p1), .val (.int p2), .val (.int p3), .val .null] [(.ref c0_a), (.int ((0 : Int32) + p2)), (.int ((0 : Int32) + p1)), (.int 0), .null, .null, (.ref a_RUNNING), .null, .null, (.ref b22), (.ref b22)])) _
    refine st17 _ ?_
    refine XS.iloadN X17.here hx rfl (hb hby d5_41) rfl ?_
    show Steps p.tables e below (T17.setTop (mkF m 42 #[.val (.ref c0_a), .val (.int p1), .val (.int p2), .val (.int p3), .val .null] [(.int p3), (.int 0), (.int ((0 : Int32) + p2)), (.int ((0 : Int32) + p1)), (.int 0), .null, .null, (.ref a_RUNNING), .null, .null, (.ref b22), (.ref b22)])) _
    refine XS.iadd X17.here hx rfl (hb hby d5_42) rfl ?_
    show Steps p.tables e below (T17.setTop (mkF m 43 #[.val (.ref c0_a), .val (.int p1), .val (.int p2), .val (.int p3), .val .null] [(.int ((0 : Int32) + p3)), (.int ((0 : Int32) + p2)), (.int ((0 : Int32) + p1)), (.int 0), .null, .null, (.ref a_RUNNING), .null, .null, (.ref b22), (.ref b22)])) _
    refine st18.trans ?_
    show Steps p.tables e below (T18.setTop (mkF m 46 #[.val (.ref c0_a), .val (.int p1), .val (.int p2), .val (.int p3), .val .null] [(.ref b22)])) _
    jvm_step X18.here [X18.here.top, hx, (hb hby d5_46), X18.method', Bd.returns, Value.isRef, FieldType.isReference]
    first | (intro acts; rw [hr _ acts rfl rfl rfl]) | rw [hr _ _ rfl rfl rfl]
    exact Steps.refl _
  · show Q5_26 Z a_RUNNING p1 p2 p3 h0 n0 _ T18.heap _
    exact ⟨b22, rfl, N18, KK18, sz_b22, u19, o18_0, o18_1, o18_2, o18_3, o18_4, o18_5, o18_6, o18_7, o18_8⟩
theorem pd_3 : parseMethodDescriptor "(IIILjava/time/Instant;)Lcom/example/corestone/corestone/BulkRequest;" = some ⟨[.int, .int, .int, (.object "java/time/Instant")], some (.object "com/example/corestone/corestone/BulkRequest")⟩ := by decide +kernel
theorem tw_42 {a0 : Array Value} {Z : State} (hw : ∀ d ∈ tables_1, d.before a0 Z = true) : (Jvm.Cond.selects "com/example/corestone/corestone/BulkRequest" ({ cls := "com/example/corestone/corestone/BulkRequest", name := "running", desc := "(IIILjava/time/Instant;)Lcom/example/corestone/corestone/BulkRequest;" } : Jvm.MethodName) ({ cls := "com/example/corestone/corestone/BulkRequest", name := "running", desc := "(IIILjava/time/Instant;)Lcom/example/corestone/corestone/BulkRequest;" } : Jvm.MethodName)).before a0 Z = true := hw _ (List.mem_of_getElem? (i := 42) rfl)
theorem tw_40 {a0 : Array Value} {Z : State} (hw : ∀ d ∈ tables_1, d.before a0 Z = true) : (Jvm.Cond.declares ({ cls := "com/example/corestone/corestone/BulkRequest", name := "running", desc := "(IIILjava/time/Instant;)Lcom/example/corestone/corestone/BulkRequest;" } : Jvm.MethodName)).before a0 Z = true := hw _ (List.mem_of_getElem? (i := 40) rfl)
theorem tw_41 {a0 : Array Value} {Z : State} (hw : ∀ d ∈ tables_1, d.before a0 Z = true) : (Jvm.Cond.instanceMethod ({ cls := "com/example/corestone/corestone/BulkRequest", name := "running", desc := "(IIILjava/time/Instant;)Lcom/example/corestone/corestone/BulkRequest;" } : Jvm.MethodName)).before a0 Z = true := hw _ (List.mem_of_getElem? (i := 41) rfl)
theorem tw_46 {a0 : Array Value} {Z : State} (hw : ∀ d ∈ tables_1, d.before a0 Z = true) : (Jvm.Cond.methodLink "com/example/corestone/corestone/StatusEndedPinLaw" (32 : Nat) ({ cls := "com/example/corestone/corestone/BulkRequest", name := "ended", desc := "(Ljava/time/Instant;)Lcom/example/corestone/corestone/BulkRequest;" } : Jvm.MethodName)).before a0 Z = true := hw _ (List.mem_of_getElem? (i := 46) rfl)
theorem tw_50 {a0 : Array Value} {Z : State} (hw : ∀ d ∈ tables_1, d.before a0 Z = true) : (Jvm.Cond.code ({ cls := "com/example/corestone/corestone/BulkRequest", name := "ended", desc := "(Ljava/time/Instant;)Lcom/example/corestone/corestone/BulkRequest;" } : Jvm.MethodName) prog_2_method_5_code (2 : Nat) (Option.some (Jvm.ClassFile.FieldType.object "com/example/corestone/corestone/BulkRequest"))).before a0 Z = true := hw _ (List.mem_of_getElem? (i := 50) rfl)
theorem d6_0 : decode prog_2_method_5_code 0 = .ok (.new 8, 3) := by decide +kernel
theorem d6_3 : decode prog_2_method_5_code 3 = .ok (.dup, 1) := by decide +kernel
theorem d6_4 : decode prog_2_method_5_code 4 = .ok (.aload_n 0, 1) := by decide +kernel
theorem d6_5 : decode prog_2_method_5_code 5 = .ok (.getfield 7, 3) := by decide +kernel
theorem d6_8 : decode prog_2_method_5_code 8 = .ok (.aload_n 0, 1) := by decide +kernel
theorem d6_9 : decode prog_2_method_5_code 9 = .ok (.getfield 13, 3) := by decide +kernel
theorem d6_12 : decode prog_2_method_5_code 12 = .ok (.aload_n 0, 1) := by decide +kernel
theorem d6_13 : decode prog_2_method_5_code 13 = .ok (.getfield 31, 3) := by decide +kernel
theorem d6_16 : decode prog_2_method_5_code 16 = .ok (.aload_n 0, 1) := by decide +kernel
theorem d6_17 : decode prog_2_method_5_code 17 = .ok (.getfield 34, 3) := by decide +kernel
theorem d6_20 : decode prog_2_method_5_code 20 = .ok (.iadd, 1) := by decide +kernel
theorem d6_21 : decode prog_2_method_5_code 21 = .ok (.ifCond .le 9, 3) := by decide +kernel
theorem d6_24 : decode prog_2_method_5_code 24 = .ok (.getstatic 51, 3) := by decide +kernel
theorem tw_51 {a0 : Array Value} {Z : State} (hw : ∀ d ∈ tables_1, d.before a0 Z = true) : (Jvm.Cond.fieldLink "com/example/corestone/corestone/BulkRequest" (51 : Nat) "com/example/corestone/corestone/BulkRequest$Status" "COMPLETED" "Lcom/example/corestone/corestone/BulkRequest$Status;").before a0 Z = true := hw _ (List.mem_of_getElem? (i := 51) rfl)
theorem d6_27 : decode prog_2_method_5_code 27 = .ok (.goto 6, 3) := by decide +kernel
theorem d6_33 : decode prog_2_method_5_code 33 = .ok (.aload_n 0, 1) := by decide +kernel
theorem d6_34 : decode prog_2_method_5_code 34 = .ok (.getfield 20, 3) := by decide +kernel
theorem d6_37 : decode prog_2_method_5_code 37 = .ok (.aload_n 1, 1) := by decide +kernel
theorem d6_38 : decode prog_2_method_5_code 38 = .ok (.aload_n 0, 1) := by decide +kernel
theorem d6_39 : decode prog_2_method_5_code 39 = .ok (.getfield 27, 3) := by decide +kernel
theorem d6_42 : decode prog_2_method_5_code 42 = .ok (.aload_n 0, 1) := by decide +kernel
theorem d6_43 : decode prog_2_method_5_code 43 = .ok (.getfield 31, 3) := by decide +kernel
theorem d6_46 : decode prog_2_method_5_code 46 = .ok (.aload_n 0, 1) := by decide +kernel
theorem d6_47 : decode prog_2_method_5_code 47 = .ok (.getfield 34, 3) := by decide +kernel
theorem d6_50 : decode prog_2_method_5_code 50 = .ok (.aload_n 0, 1) := by decide +kernel
theorem d6_51 : decode prog_2_method_5_code 51 = .ok (.getfield 37, 3) := by decide +kernel
theorem d6_54 : decode prog_2_method_5_code 54 = .ok (.invokespecial 45, 3) := by decide +kernel
def Q2_30 (Z : State) (c0_a : Addr) (a_COMPLETED : Addr) (p1 : Int32) (p2 : Int32) (p3 : Int32) (h0 : Heap) (n0 : Nat) (v : Option Value) (h : Heap) (L : List Loc) : Prop := v = none ∧ Fr n0 L ∧ Keep h0 h [c0_a] ∧ F_1 Z h c0_a .null ∧ F_2 Z h c0_a .null ∧ F_3 Z h c0_a (.ref a_COMPLETED) ∧ F_4 Z h c0_a .null ∧ F_5 Z h c0_a .null ∧ F_6 Z h c0_a (.int 0) ∧ F_7 Z h c0_a (.int ((0 : Int32) + p1)) ∧ F_8 Z h c0_a (.int ((0 : Int32) + p2)) ∧ F_9 Z h c0_a (.int ((0 : Int32) + p3))
set_option maxRecDepth 65536 in
set_option maxHeartbeats 40000000 in
theorem rm2_29 (l : Launch) (Z : State) (a0 : Array Value) (hw : ∀ d ∈ tables_1, d.before a0 Z = true) (ws : List Jvm.Cond) (c0_a : Addr) (a_COMPLETED : Addr) (p1 : Int32) (p2 : Int32) (p3 : Int32) (h0 : Heap) (n0 : Nat) (Z0 : n0 ≤ h0.size) (f1 : F_1 Z h0 c0_a .null) (f2 : E_1 Z h0 c0_a) (f3 : n0 ≤ c0_a) (f4 : F_2 Z h0 c0_a .null) (f5 : F_3 Z h0 c0_a .null) (f6 : F_4 Z h0 c0_a .null) (f7 : F_5 Z h0 c0_a .null) (f8 : F_6 Z h0 c0_a (.int 0)) (f9 : F_7 Z h0 c0_a (.int 0)) (f10 : F_8 Z h0 c0_a (.int 0)) (f11 : F_9 Z h0 c0_a (.int 0)) :
    MetFree l M_1 (head1 (Jvm.Cond.code M_1 prog_2_method_1_code 10 none :: ws) R_2_0_0_24) (fun a U => a = #[(.ref c0_a), .null, .null, (.ref a_COMPLETED), .null, .null, (.int 0), (.int ((0 : Int32) + p1)), (.int ((0 : Int32) + p2)), (.int ((0 : Int32) + p3))] ∧ Z.Warmed39 U.vm ∧ U.heap = h0) (fun _ _ _ _ _ => True) (fun _ U o U' => ∃ v L, o = .returned v ∧ Q2_30 Z c0_a a_COMPLETED p1 p2 p3 h0 n0 v U'.heap L ∧ FrameEnd U o U' L R_2_0_0_24.cells R_2_0_0_24.slots) := by
  refine MetFree.of_bodySF (plainFor_of_name pn_com_example_corestone_corestone_BulkRequest) hisR ?_
  intro p e s m args below meth c s₁ Bd hml0 hP hK
  obtain ⟨rfl, hZ, hh⟩ := hP
  have hx := Bd.exec
  have hby := Bd.bytes
  have hml : c.maxLocals = 10 := hml0
  have hown : s.vm.findClass "com/example/corestone/corestone/BulkRequest" = some m.cls := findClass_of_methodNamed Bd.named
  have hnm := (name_of_methodNamed Bd.named Bd.method).1
  have X0 : Stand p l e R_2_0_0_24 s m #[(.ref c0_a), .null, .null, (.ref a_COMPLETED), .null, .null, (.int 0), (.int ((0 : Int32) + p1)), (.int ((0 : Int32) + p2)), (.int ((0 : Int32) + p3))] below meth c s₁ [] 0 0 := Stand.of_body Bd
  have e0 : s₁.heap = h0 := by rw [← hh, Bd.state]; rfl
  have N0 := Fr.nil n0
  -- pc 1: java/lang/Record.<init>
  obtain ⟨_, _, ⟨T1, L1, k1, n1⟩, -, X1, ⟨Lc1, hQ1, l1, y1, z1⟩, st1⟩ := X0.specialBack hx (y := M_0) rfl hown (mvT hZ (tw_13 hw)) (mvT hZ (tw_14 hw)) (mvT hZ (tw_17 hw)) (by decide) (backOf (W := 0) (rm3_16 l Z a0 hw [] c0_a h0 n0 Z0 ) hZ (tw_17 hw) (tw_16 hw) (by decide) (by decide)) (g := (mkF m 1 #[.val (.ref c0_a), .val .null, .val .null, .val (.ref a_COMPLETED), .val .null, .val .null, .val (.int 0), .val (.int ((0 : Int32) + p1)), .val (.int ((0 : Int32) + p2)), .val (.int ((0 : Int32) + p3))] [(.ref c0_a)])) rfl (by rw [hml]; rfl) (Steps.refl _) (a := c0_a) (argsL := []) (rest := []) (lenOf pd_0 rfl) rfl (by show 2 * 0 + _ ≤ _; exact Nat.le_of_eq rfl) (hb hby d2_1) (fun _ _ => ⟨rfl, e0, (by decide : 0 + 0 ≤ _), (by decide : 0 + 0 ≤ _)⟩)
  dsimp only [Pt.U, Pt.locs, Pt.cells, Pt.slots] at X1 l1 y1 z1 st1 hQ1
  subst l1 y1 z1
  obtain ⟨rfl, Nq1, e1⟩ := hQ1
  have N1 := Fr.app N0 Nq1
  obtain ⟨T2, h2, X2, e2, W2, st2⟩ := putF X1 hx hZ hown (host := "") (Or.inl (tw_21 hw)) Via.refl e1 f1 f2 (Or.inr ⟨(tw_22 hw), rfl, hnm⟩) (tw_8 hw) (ty := (.object "java/lang/String")) (by decide) rfl rfl (g := (mkF m 6 #[.val (.ref c0_a), .val .null, .val .null, .val (.ref a_COMPLETED), .val .null, .val .null, .val (.int 0), .val (.int ((0 : Int32) + p1)), .val (.int ((0 : Int32) + p2)), .val (.int ((0 : Int32) + p3))] [.null, (.ref c0_a)])) rfl rfl (hb hby d2_6)
  have Fw2 : F_1 Z h2 c0_a .null := Fld.same W2 f1
  have KK2 : Keep h0 h2 [c0_a] := (Keep.refl h0 [c0_a]).wr W2 (Or.inl (List.mem_of_getElem? (i := 0) rfl))
  have N2 := Fr.snoc X2 N1 f3
  have u3 : F_2 Z h2 c0_a .null := Fld.other W2 f4 (Or.inr (slot_ne (a0 := a0) (Or.inr (tw_24 hw)) (Or.inr (tw_22 hw)) (by decide) (t := (.object "java/lang/String")) (t' := (.object "java/lang/String")) (by decide) (by decide)))
  have u4 : E_1 Z h2 c0_a := Exa.wr W2 f2
  obtain ⟨T5, h5, X5, e5, W5, st5⟩ := putF X2 hx hZ hown (host := "") (Or.inl (tw_23 hw)) Via.refl e2 u3 u4 (Or.inr ⟨(tw_24 hw), rfl, hnm⟩) (tw_8 hw) (ty := (.object "java/lang/String")) (by decide) rfl rfl (g := (mkF m 11 #[.val (.ref c0_a), .val .null, .val .null, .val (.ref a_COMPLETED), .val .null, .val .null, .val (.int 0), .val (.int ((0 : Int32) + p1)), .val (.int ((0 : Int32) + p2)), .val (.int ((0 : Int32) + p3))] [.null, (.ref c0_a)])) rfl rfl (hb hby d2_11)
  have Fw5 : F_2 Z h5 c0_a .null := Fld.same W5 u3
  have KK5 : Keep h0 h5 [c0_a] := KK2.wr W5 (Or.inl (List.mem_of_getElem? (i := 0) rfl))
  have N5 := Fr.snoc X5 N2 f3
  have u6 : F_3 Z h2 c0_a .null := Fld.other W2 f5 (Or.inr (slot_ne (a0 := a0) (Or.inr (tw_26 hw)) (Or.inr (tw_22 hw)) (by decide) (t := (.object "com/example/corestone/corestone/BulkRequest$Status")) (t' := (.object "java/lang/String")) (by decide) (by decide)))
  have u7 : F_3 Z h5 c0_a .null := Fld.other W5 u6 (Or.inr (slot_ne (a0 := a0) (Or.inr (tw_26 hw)) (Or.inr (tw_24 hw)) (by decide) (t := (.object "com/example/corestone/corestone/BulkRequest$Status")) (t' := (.object "java/lang/String")) (by decide) (by decide)))
  have u8 : E_1 Z h5 c0_a := Exa.wr W5 u4
  obtain ⟨T9, h9, X9, e9, W9, st9⟩ := putF X5 hx hZ hown (host := "") (Or.inl (tw_25 hw)) Via.refl e5 u7 u8 (Or.inr ⟨(tw_26 hw), rfl, hnm⟩) (tw_8 hw) (ty := (.object "com/example/corestone/corestone/BulkRequest$Status")) (by decide) rfl rfl (g := (mkF m 16 #[.val (.ref c0_a), .val .null, .val .null, .val (.ref a_COMPLETED), .val .null, .val .null, .val (.int 0), .val (.int ((0 : Int32) + p1)), .val (.int ((0 : Int32) + p2)), .val (.int ((0 : Int32) + p3))] [(.ref a_COMPLETED), (.ref c0_a)])) rfl rfl (hb hby d2_16)
  have Fw9 : F_3 Z h9 c0_a (.ref a_COMPLETED) := Fld.same W9 u7
  have KK9 : Keep h0 h9 [c0_a] := KK5.wr W9 (Or.inl (List.mem_of_getElem? (i := 0) rfl))
  have N9 := Fr.snoc X9 N5 f3
  have u10 : F_4 Z h2 c0_a .null := Fld.other W2 f6 (Or.inr (slot_ne (a0 := a0) (Or.inr (tw_28 hw)) (Or.inr (tw_22 hw)) (by decide) (t := (.object "java/time/Instant")) (t' := (.object "java/lang/String")) (by decide) (by decide)))
  have u11 : F_4 Z h5 c0_a .null := Fld.other W5 u10 (Or.inr (slot_ne (a0 := a0) (Or.inr (tw_28 hw)) (Or.inr (tw_24 hw)) (by decide) (t := (.object "java/time/Instant")) (t' := (.object "java/lang/String")) (by decide) (by decide)))
  have u12 : F_4 Z h9 c0_a .null := Fld.other W9 u11 (Or.inr (slot_ne (a0 := a0) (Or.inr (tw_28 hw)) (Or.inr (tw_26 hw)) (by decide) (t := (.object "java/time/Instant")) (t' := (.object "com/example/corestone/corestone/BulkRequest$Status")) (by decide) (by decide)))
  have u13 : E_1 Z h9 c0_a := Exa.wr W9 u8
  obtain ⟨T14, h14, X14, e14, W14, st14⟩ := putF X9 hx hZ hown (host := "") (Or.inl (tw_27 hw)) Via.refl e9 u12 u13 (Or.inr ⟨(tw_28 hw), rfl, hnm⟩) (tw_8 hw) (ty := (.object "java/time/Instant")) (by decide) rfl rfl (g := (mkF m 22 #[.val (.ref c0_a), .val .null, .val .null, .val (.ref a_COMPLETED), .val .null, .val .null, .val (.int 0), .val (.int ((0 : Int32) + p1)), .val (.int ((0 : Int32) + p2)), .val (.int ((0 : Int32) + p3))] [.null, (.ref c0_a)])) rfl rfl (hb hby d2_22)
  have Fw14 : F_4 Z h14 c0_a .null := Fld.same W14 u12
  have KK14 : Keep h0 h14 [c0_a] := KK9.wr W14 (Or.inl (List.mem_of_getElem? (i := 0) rfl))
  have N14 := Fr.snoc X14 N9 f3
  have u15 : F_5 Z h2 c0_a .null := Fld.other W2 f7 (Or.inr (slot_ne (a0 := a0) (Or.inr (tw_30 hw)) (Or.inr (tw_22 hw)) (by decide) (t := (.object "java/time/Instant")) (t' := (.object "java/lang/String")) (by decide) (by decide)))
  have u16 : F_5 Z h5 c0_a .null := Fld.other W5 u15 (Or.inr (slot_ne (a0 := a0) (Or.inr (tw_30 hw)) (Or.inr (tw_24 hw)) (by decide) (t := (.object "java/time/Instant")) (t' := (.object "java/lang/String")) (by decide) (by decide)))
  have u17 : F_5 Z h9 c0_a .null := Fld.other W9 u16 (Or.inr (slot_ne (a0 := a0) (Or.inr (tw_30 hw)) (Or.inr (tw_26 hw)) (by decide) (t := (.object "java/time/Instant")) (t' := (.object "com/example/corestone/corestone/BulkRequest$Status")) (by decide) (by decide)))
  have u18 : F_5 Z h14 c0_a .null := Fld.other W14 u17 (Or.inr (slot_ne (a0 := a0) (Or.inr (tw_30 hw)) (Or.inr (tw_28 hw)) (by decide) (t := (.object "java/time/Instant")) (t' := (.object "java/time/Instant")) (by decide) (by decide)))
  have u19 : E_1 Z h14 c0_a := Exa.wr W14 u13
  obtain ⟨T20, h20, X20, e20, W20, st20⟩ := putF X14 hx hZ hown (host := "") (Or.inl (tw_29 hw)) Via.refl e14 u18 u19 (Or.inr ⟨(tw_30 hw), rfl, hnm⟩) (tw_8 hw) (ty := (.object "java/time/Instant")) (by decide) rfl rfl (g := (mkF m 28 #[.val (.ref c0_a), .val .null, .val .null, .val (.ref a_COMPLETED), .val .null, .val .null, .val (.int 0), .val (.int ((0 : Int32) + p1)), .val (.int ((0 : Int32) + p2)), .val (.int ((0 : Int32) + p3))] [.null, (.ref c0_a)])) rfl rfl (hb hby d2_28)
  have Fw20 : F_5 Z h20 c0_a .null := Fld.same W20 u18
  have KK20 : Keep h0 h20 [c0_a] := KK14.wr W20 (Or.inl (List.mem_of_getElem? (i := 0) rfl))
  have N20 := Fr.snoc X20 N14 f3
  have u21 : F_6 Z h2 c0_a (.int 0) := Fld.other W2 f8 (Or.inr (slot_ne (a0 := a0) (Or.inr (tw_32 hw)) (Or.inr (tw_22 hw)) (by decide) (t := .int) (t' := (.object "java/lang/String")) (by decide) (by decide)))
  have u22 : F_6 Z h5 c0_a (.int 0) := Fld.other W5 u21 (Or.inr (slot_ne (a0 := a0) (Or.inr (tw_32 hw)) (Or.inr (tw_24 hw)) (by decide) (t := .int) (t' := (.object "java/lang/String")) (by decide) (by decide)))
  have u23 : F_6 Z h9 c0_a (.int 0) := Fld.other W9 u22 (Or.inr (slot_ne (a0 := a0) (Or.inr (tw_32 hw)) (Or.inr (tw_26 hw)) (by decide) (t := .int) (t' := (.object "com/example/corestone/corestone/BulkRequest$Status")) (by decide) (by decide)))
  have u24 : F_6 Z h14 c0_a (.int 0) := Fld.other W14 u23 (Or.inr (slot_ne (a0 := a0) (Or.inr (tw_32 hw)) (Or.inr (tw_28 hw)) (by decide) (t := .int) (t' := (.object "java/time/Instant")) (by decide) (by decide)))
  have u25 : F_6 Z h20 c0_a (.int 0) := Fld.other W20 u24 (Or.inr (slot_ne (a0 := a0) (Or.inr (tw_32 hw)) (Or.inr (tw_30 hw)) (by decide) (t := .int) (t' := (.object "java/time/Instant")) (by decide) (by decide)))
  have u26 : E_1 Z h20 c0_a := Exa.wr W20 u19
  obtain ⟨T27, h27, X27, e27, W27, st27⟩ := putF X20 hx hZ hown (host := "") (Or.inl (tw_31 hw)) Via.refl e20 u25 u26 (Or.inr ⟨(tw_32 hw), rfl, hnm⟩) (tw_8 hw) (ty := .int) (by decide) rfl rfl (g := (mkF m 34 #[.val (.ref c0_a), .val .null, .val .null, .val (.ref a_COMPLETED), .val .null, .val .null, .val (.int 0), .val (.int ((0 : Int32) + p1)), .val (.int ((0 : Int32) + p2)), .val (.int ((0 : Int32) + p3))] [(.int 0), (.ref c0_a)])) rfl rfl (hb hby d2_34)
  have Fw27 : F_6 Z h27 c0_a (.int 0) := Fld.same W27 u25
  have KK27 : Keep h0 h27 [c0_a] := KK20.wr W27 (Or.inl (List.mem_of_getElem? (i := 0) rfl))
  have N27 := Fr.snoc X27 N20 f3
  have u28 : F_7 Z h2 c0_a (.int 0) := Fld.other W2 f9 (Or.inr (slot_ne (a0 := a0) (Or.inr (tw_34 hw)) (Or.inr (tw_22 hw)) (by decide) (t := .int) (t' := (.object "java/lang/String")) (by decide) (by decide)))
  have u29 : F_7 Z h5 c0_a (.int 0) := Fld.other W5 u28 (Or.inr (slot_ne (a0 := a0) (Or.inr (tw_34 hw)) (Or.inr (tw_24 hw)) (by decide) (t := .int) (t' := (.object "java/lang/String")) (by decide) (by decide)))
  have u30 : F_7 Z h9 c0_a (.int 0) := Fld.other W9 u29 (Or.inr (slot_ne (a0 := a0) (Or.inr (tw_34 hw)) (Or.inr (tw_26 hw)) (by decide) (t := .int) (t' := (.object "com/example/corestone/corestone/BulkRequest$Status")) (by decide) (by decide)))
  have u31 : F_7 Z h14 c0_a (.int 0) := Fld.other W14 u30 (Or.inr (slot_ne (a0 := a0) (Or.inr (tw_34 hw)) (Or.inr (tw_28 hw)) (by decide) (t := .int) (t' := (.object "java/time/Instant")) (by decide) (by decide)))
  have u32 : F_7 Z h20 c0_a (.int 0) := Fld.other W20 u31 (Or.inr (slot_ne (a0 := a0) (Or.inr (tw_34 hw)) (Or.inr (tw_30 hw)) (by decide) (t := .int) (t' := (.object "java/time/Instant")) (by decide) (by decide)))
  have u33 : F_7 Z h27 c0_a (.int 0) := Fld.other W27 u32 (Or.inr (slot_ne (a0 := a0) (Or.inr (tw_34 hw)) (Or.inr (tw_32 hw)) (by decide) (t := .int) (t' := .int) (by decide) (by decide)))
  have u34 : E_1 Z h27 c0_a := Exa.wr W27 u26
  obtain ⟨T35, h35, X35, e35, W35, st35⟩ := putF X27 hx hZ hown (host := "") (Or.inl (tw_33 hw)) Via.refl e27 u33 u34 (Or.inr ⟨(tw_34 hw), rfl, hnm⟩) (tw_8 hw) (ty := .int) (by decide) rfl rfl (g := (mkF m 40 #[.val (.ref c0_a), .val .null, .val .null, .val (.ref a_COMPLETED), .val .null, .val .null, .val (.int 0), .val (.int ((0 : Int32) + p1)), .val (.int ((0 : Int32) + p2)), .val (.int ((0 : Int32) + p3))] [(.int ((0 : Int32) + p1)), (.ref c0_a)])) rfl rfl (hb hby d2_40)
  have Fw35 : F_7 Z h35 c0_a (.int ((0 : Int32) + p1)) := Fld.same W35 u33
  have KK35 : Keep h0 h35 [c0_a] := KK27.wr W35 (Or.inl (List.mem_of_getElem? (i := 0) rfl))
  have N35 := Fr.snoc X35 N27 f3
  have u36 : F_8 Z h2 c0_a (.int 0) := Fld.other W2 f10 (Or.inr (slot_ne (a0 := a0) (Or.inr (tw_36 hw)) (Or.inr (tw_22 hw)) (by decide) (t := .int) (t' := (.object "java/lang/String")) (by decide) (by decide)))
  have u37 : F_8 Z h5 c0_a (.int 0) := Fld.other W5 u36 (Or.inr (slot_ne (a0 := a0) (Or.inr (tw_36 hw)) (Or.inr (tw_24 hw)) (by decide) (t := .int) (t' := (.object "java/lang/String")) (by decide) (by decide)))
  have u38 : F_8 Z h9 c0_a (.int 0) := Fld.other W9 u37 (Or.inr (slot_ne (a0 := a0) (Or.inr (tw_36 hw)) (Or.inr (tw_26 hw)) (by decide) (t := .int) (t' := (.object "com/example/corestone/corestone/BulkRequest$Status")) (by decide) (by decide)))
  have u39 : F_8 Z h14 c0_a (.int 0) := Fld.other W14 u38 (Or.inr (slot_ne (a0 := a0) (Or.inr (tw_36 hw)) (Or.inr (tw_28 hw)) (by decide) (t := .int) (t' := (.object "java/time/Instant")) (by decide) (by decide)))
  have u40 : F_8 Z h20 c0_a (.int 0) := Fld.other W20 u39 (Or.inr (slot_ne (a0 := a0) (Or.inr (tw_36 hw)) (Or.inr (tw_30 hw)) (by decide) (t := .int) (t' := (.object "java/time/Instant")) (by decide) (by decide)))
  have u41 : F_8 Z h27 c0_a (.int 0) := Fld.other W27 u40 (Or.inr (slot_ne (a0 := a0) (Or.inr (tw_36 hw)) (Or.inr (tw_32 hw)) (by decide) (t := .int) (t' := .int) (by decide) (by decide)))
  have u42 : F_8 Z h35 c0_a (.int 0) := Fld.other W35 u41 (Or.inr (slot_ne (a0 := a0) (Or.inr (tw_36 hw)) (Or.inr (tw_34 hw)) (by decide) (t := .int) (t' := .int) (by decide) (by decide)))
  have u43 : E_1 Z h35 c0_a := Exa.wr W35 u34
  obtain ⟨T44, h44, X44, e44, W44, st44⟩ := putF X35 hx hZ hown (host := "") (Or.inl (tw_35 hw)) Via.refl e35 u42 u43 (Or.inr ⟨(tw_36 hw), rfl, hnm⟩) (tw_8 hw) (ty := .int) (by decide) rfl rfl (g := (mkF m 46 #[.val (.ref c0_a), .val .null, .val .null, .val (.ref a_COMPLETED), .val .null, .val .null, .val (.int 0), .val (.int ((0 : Int32) + p1)), .val (.int ((0 : Int32) + p2)), .val (.int ((0 : Int32) + p3))] [(.int ((0 : Int32) + p2)), (.ref c0_a)])) rfl rfl (hb hby d2_46)
  have Fw44 : F_8 Z h44 c0_a (.int ((0 : Int32) + p2)) := Fld.same W44 u42
  have KK44 : Keep h0 h44 [c0_a] := KK35.wr W44 (Or.inl (List.mem_of_getElem? (i := 0) rfl))
  have N44 := Fr.snoc X44 N35 f3
  have u45 : F_9 Z h2 c0_a (.int 0) := Fld.other W2 f11 (Or.inr (slot_ne (a0 := a0) (Or.inr (tw_38 hw)) (Or.inr (tw_22 hw)) (by decide) (t := .int) (t' := (.object "java/lang/String")) (by decide) (by decide)))
  have u46 : F_9 Z h5 c0_a (.int 0) := Fld.other W5 u45 (Or.inr (slot_ne (a0 := a0) (Or.inr (tw_38 hw)) (Or.inr (tw_24 hw)) (by decide) (t := .int) (t' := (.object "java/lang/String")) (by decide) (by decide)))
  have u47 : F_9 Z h9 c0_a (.int 0) := Fld.other W9 u46 (Or.inr (slot_ne (a0 := a0) (Or.inr (tw_38 hw)) (Or.inr (tw_26 hw)) (by decide) (t := .int) (t' := (.object "com/example/corestone/corestone/BulkRequest$Status")) (by decide) (by decide)))
  have u48 : F_9 Z h14 c0_a (.int 0) := Fld.other W14 u47 (Or.inr (slot_ne (a0 := a0) (Or.inr (tw_38 hw)) (Or.inr (tw_28 hw)) (by decide) (t := .int) (t' := (.object "java/time/Instant")) (by decide) (by decide)))
  have u49 : F_9 Z h20 c0_a (.int 0) := Fld.other W20 u48 (Or.inr (slot_ne (a0 := a0) (Or.inr (tw_38 hw)) (Or.inr (tw_30 hw)) (by decide) (t := .int) (t' := (.object "java/time/Instant")) (by decide) (by decide)))
  have u50 : F_9 Z h27 c0_a (.int 0) := Fld.other W27 u49 (Or.inr (slot_ne (a0 := a0) (Or.inr (tw_38 hw)) (Or.inr (tw_32 hw)) (by decide) (t := .int) (t' := .int) (by decide) (by decide)))
  have u51 : F_9 Z h35 c0_a (.int 0) := Fld.other W35 u50 (Or.inr (slot_ne (a0 := a0) (Or.inr (tw_38 hw)) (Or.inr (tw_34 hw)) (by decide) (t := .int) (t' := .int) (by decide) (by decide)))
  have u52 : F_9 Z h44 c0_a (.int 0) := Fld.other W44 u51 (Or.inr (slot_ne (a0 := a0) (Or.inr (tw_38 hw)) (Or.inr (tw_36 hw)) (by decide) (t := .int) (t' := .int) (by decide) (by decide)))
  have u53 : E_1 Z h44 c0_a := Exa.wr W44 u43
  obtain ⟨T54, h54, X54, e54, W54, st54⟩ := putF X44 hx hZ hown (host := "") (Or.inl (tw_37 hw)) Via.refl e44 u52 u53 (Or.inr ⟨(tw_38 hw), rfl, hnm⟩) (tw_8 hw) (ty := .int) (by decide) rfl rfl (g := (mkF m 52 #[.val (.ref c0_a), .val .null, .val .null, .val (.ref a_COMPLETED), .val .null, .val .null, .val (.int 0), .val (.int ((0 : Int32) + p1)), .val (.int ((0 : Int32) + p2)), .val (.int ((0 : Int32) + p3))] [(.int ((0 : Int32) + p3)), (.ref c0_a)])) rfl rfl (hb hby d2_52)
  have Fw54 : F_9 Z h54 c0_a (.int ((0 : Int32) + p3)) := Fld.same W54 u52
  have KK54 : Keep h0 h54 [c0_a] := KK44.wr W54 (Or.inl (List.mem_of_getElem? (i := 0) rfl))
  have N54 := Fr.snoc X54 N44 f3
  have u55 : F_1 Z h5 c0_a .null := Fld.other W5 Fw2 (Or.inr (slot_ne (a0 := a0) (Or.inr (tw_22 hw)) (Or.inr (tw_24 hw)) (by decide) (t := (.object "java/lang/String")) (t' := (.object "java/lang/String")) (by decide) (by decide)))
  have u56 : F_1 Z h9 c0_a .null := Fld.other W9 u55 (Or.inr (slot_ne (a0 := a0) (Or.inr (tw_22 hw)) (Or.inr (tw_26 hw)) (by decide) (t := (.object "java/lang/String")) (t' := (.object "com/example/corestone/corestone/BulkRequest$Status")) (by decide) (by decide)))
  have u57 : F_1 Z h14 c0_a .null := Fld.other W14 u56 (Or.inr (slot_ne (a0 := a0) (Or.inr (tw_22 hw)) (Or.inr (tw_28 hw)) (by decide) (t := (.object "java/lang/String")) (t' := (.object "java/time/Instant")) (by decide) (by decide)))
  have u58 : F_1 Z h20 c0_a .null := Fld.other W20 u57 (Or.inr (slot_ne (a0 := a0) (Or.inr (tw_22 hw)) (Or.inr (tw_30 hw)) (by decide) (t := (.object "java/lang/String")) (t' := (.object "java/time/Instant")) (by decide) (by decide)))
  have u59 : F_1 Z h27 c0_a .null := Fld.other W27 u58 (Or.inr (slot_ne (a0 := a0) (Or.inr (tw_22 hw)) (Or.inr (tw_32 hw)) (by decide) (t := (.object "java/lang/String")) (t' := .int) (by decide) (by decide)))
  have u60 : F_1 Z h35 c0_a .null := Fld.other W35 u59 (Or.inr (slot_ne (a0 := a0) (Or.inr (tw_22 hw)) (Or.inr (tw_34 hw)) (by decide) (t := (.object "java/lang/String")) (t' := .int) (by decide) (by decide)))
  have u61 : F_1 Z h44 c0_a .null := Fld.other W44 u60 (Or.inr (slot_ne (a0 := a0) (Or.inr (tw_22 hw)) (Or.inr (tw_36 hw)) (by decide) (t := (.object "java/lang/String")) (t' := .int) (by decide) (by decide)))
  have u62 : F_1 Z h54 c0_a .null := Fld.other W54 u61 (Or.inr (slot_ne (a0 := a0) (Or.inr (tw_22 hw)) (Or.inr (tw_38 hw)) (by decide) (t := (.object "java/lang/String")) (t' := .int) (by decide) (by decide)))
  have u63 : F_2 Z h9 c0_a .null := Fld.other W9 Fw5 (Or.inr (slot_ne (a0 := a0) (Or.inr (tw_24 hw)) (Or.inr (tw_26 hw)) (by decide) (t := (.object "java/lang/String")) (t' := (.object "com/example/corestone/corestone/BulkRequest$Status")) (by decide) (by decide)))
  have u64 : F_2 Z h14 c0_a .null := Fld.other W14 u63 (Or.inr (slot_ne (a0 := a0) (Or.inr (tw_24 hw)) (Or.inr (tw_28 hw)) (by decide) (t := (.object "java/lang/String")) (t' := (.object "java/time/Instant")) (by decide) (by decide)))
  have u65 : F_2 Z h20 c0_a .null := Fld.other W20 u64 (Or.inr (slot_ne (a0 := a0) (Or.inr (tw_24 hw)) (Or.inr (tw_30 hw)) (by decide) (t := (.object "java/lang/String")) (t' := (.object "java/time/Instant")) (by decide) (by decide)))
  have u66 : F_2 Z h27 c0_a .null := Fld.other W27 u65 (Or.inr (slot_ne (a0 := a0) (Or.inr (tw_24 hw)) (Or.inr (tw_32 hw)) (by decide) (t := (.object "java/lang/String")) (t' := .int) (by decide) (by decide)))
  have u67 : F_2 Z h35 c0_a .null := Fld.other W35 u66 (Or.inr (slot_ne (a0 := a0) (Or.inr (tw_24 hw)) (Or.inr (tw_34 hw)) (by decide) (t := (.object "java/lang/String")) (t' := .int) (by decide) (by decide)))
  have u68 : F_2 Z h44 c0_a .null := Fld.other W44 u67 (Or.inr (slot_ne (a0 := a0) (Or.inr (tw_24 hw)) (Or.inr (tw_36 hw)) (by decide) (t := (.object "java/lang/String")) (t' := .int) (by decide) (by decide)))
  have u69 : F_2 Z h54 c0_a .null := Fld.other W54 u68 (Or.inr (slot_ne (a0 := a0) (Or.inr (tw_24 hw)) (Or.inr (tw_38 hw)) (by decide) (t := (.object "java/lang/String")) (t' := .int) (by decide) (by decide)))
  have u70 : F_3 Z h14 c0_a (.ref a_COMPLETED) := Fld.other W14 Fw9 (Or.inr (slot_ne (a0 := a0) (Or.inr (tw_26 hw)) (Or.inr (tw_28 hw)) (by decide) (t := (.object "com/example/corestone/corestone/BulkRequest$Status")) (t' := (.object "java/time/Instant")) (by decide) (by decide)))
  have u71 : F_3 Z h20 c0_a (.ref a_COMPLETED) := Fld.other W20 u70 (Or.inr (slot_ne (a0 := a0) (Or.inr (tw_26 hw)) (Or.inr (tw_30 hw)) (by decide) (t := (.object "com/example/corestone/corestone/BulkRequest$Status")) (t' := (.object "java/time/Instant")) (by decide) (by decide)))
  have u72 : F_3 Z h27 c0_a (.ref a_COMPLETED) := Fld.other W27 u71 (Or.inr (slot_ne (a0 := a0) (Or.inr (tw_26 hw)) (Or.inr (tw_32 hw)) (by decide) (t := (.object "com/example/corestone/corestone/BulkRequest$Status")) (t' := .int) (by decide) (by decide)))
  have u73 : F_3 Z h35 c0_a (.ref a_COMPLETED) := Fld.other W35 u72 (Or.inr (slot_ne (a0 := a0) (Or.inr (tw_26 hw)) (Or.inr (tw_34 hw)) (by decide) (t := (.object "com/example/corestone/corestone/BulkRequest$Status")) (t' := .int) (by decide) (by decide)))
  have u74 : F_3 Z h44 c0_a (.ref a_COMPLETED) := Fld.other W44 u73 (Or.inr (slot_ne (a0 := a0) (Or.inr (tw_26 hw)) (Or.inr (tw_36 hw)) (by decide) (t := (.object "com/example/corestone/corestone/BulkRequest$Status")) (t' := .int) (by decide) (by decide)))
  have u75 : F_3 Z h54 c0_a (.ref a_COMPLETED) := Fld.other W54 u74 (Or.inr (slot_ne (a0 := a0) (Or.inr (tw_26 hw)) (Or.inr (tw_38 hw)) (by decide) (t := (.object "com/example/corestone/corestone/BulkRequest$Status")) (t' := .int) (by decide) (by decide)))
  have u76 : F_4 Z h20 c0_a .null := Fld.other W20 Fw14 (Or.inr (slot_ne (a0 := a0) (Or.inr (tw_28 hw)) (Or.inr (tw_30 hw)) (by decide) (t := (.object "java/time/Instant")) (t' := (.object "java/time/Instant")) (by decide) (by decide)))
  have u77 : F_4 Z h27 c0_a .null := Fld.other W27 u76 (Or.inr (slot_ne (a0 := a0) (Or.inr (tw_28 hw)) (Or.inr (tw_32 hw)) (by decide) (t := (.object "java/time/Instant")) (t' := .int) (by decide) (by decide)))
  have u78 : F_4 Z h35 c0_a .null := Fld.other W35 u77 (Or.inr (slot_ne (a0 := a0) (Or.inr (tw_28 hw)) (Or.inr (tw_34 hw)) (by decide) (t := (.object "java/time/Instant")) (t' := .int) (by decide) (by decide)))
  have u79 : F_4 Z h44 c0_a .null := Fld.other W44 u78 (Or.inr (slot_ne (a0 := a0) (Or.inr (tw_28 hw)) (Or.inr (tw_36 hw)) (by decide) (t := (.object "java/time/Instant")) (t' := .int) (by decide) (by decide)))
  have u80 : F_4 Z h54 c0_a .null := Fld.other W54 u79 (Or.inr (slot_ne (a0 := a0) (Or.inr (tw_28 hw)) (Or.inr (tw_38 hw)) (by decide) (t := (.object "java/time/Instant")) (t' := .int) (by decide) (by decide)))
  have u81 : F_5 Z h27 c0_a .null := Fld.other W27 Fw20 (Or.inr (slot_ne (a0 := a0) (Or.inr (tw_30 hw)) (Or.inr (tw_32 hw)) (by decide) (t := (.object "java/time/Instant")) (t' := .int) (by decide) (by decide)))
  have u82 : F_5 Z h35 c0_a .null := Fld.other W35 u81 (Or.inr (slot_ne (a0 := a0) (Or.inr (tw_30 hw)) (Or.inr (tw_34 hw)) (by decide) (t := (.object "java/time/Instant")) (t' := .int) (by decide) (by decide)))
  have u83 : F_5 Z h44 c0_a .null := Fld.other W44 u82 (Or.inr (slot_ne (a0 := a0) (Or.inr (tw_30 hw)) (Or.inr (tw_36 hw)) (by decide) (t := (.object "java/time/Instant")) (t' := .int) (by decide) (by decide)))
  have u84 : F_5 Z h54 c0_a .null := Fld.other W54 u83 (Or.inr (slot_ne (a0 := a0) (Or.inr (tw_30 hw)) (Or.inr (tw_38 hw)) (by decide) (t := (.object "java/time/Instant")) (t' := .int) (by decide) (by decide)))
  have u85 : F_6 Z h35 c0_a (.int 0) := Fld.other W35 Fw27 (Or.inr (slot_ne (a0 := a0) (Or.inr (tw_32 hw)) (Or.inr (tw_34 hw)) (by decide) (t := .int) (t' := .int) (by decide) (by decide)))
  have u86 : F_6 Z h44 c0_a (.int 0) := Fld.other W44 u85 (Or.inr (slot_ne (a0 := a0) (Or.inr (tw_32 hw)) (Or.inr (tw_36 hw)) (by decide) (t := .int) (t' := .int) (by decide) (by decide)))
  have u87 : F_6 Z h54 c0_a (.int 0) := Fld.other W54 u86 (Or.inr (slot_ne (a0 := a0) (Or.inr (tw_32 hw)) (Or.inr (tw_38 hw)) (by decide) (t := .int) (t' := .int) (by decide) (by decide)))
  have u88 : F_7 Z h44 c0_a (.int ((0 : Int32) + p1)) := Fld.other W44 Fw35 (Or.inr (slot_ne (a0 := a0) (Or.inr (tw_34 hw)) (Or.inr (tw_36 hw)) (by decide) (t := .int) (t' := .int) (by decide) (by decide)))
  have u89 : F_7 Z h54 c0_a (.int ((0 : Int32) + p1)) := Fld.other W54 u88 (Or.inr (slot_ne (a0 := a0) (Or.inr (tw_34 hw)) (Or.inr (tw_38 hw)) (by decide) (t := .int) (t' := .int) (by decide) (by decide)))
  have u90 : F_8 Z h54 c0_a (.int ((0 : Int32) + p2)) := Fld.other W54 Fw44 (Or.inr (slot_ne (a0 := a0) (Or.inr (tw_36 hw)) (Or.inr (tw_38 hw)) (by decide) (t := .int) (t' := .int) (by decide) (by decide)))
  obtain ⟨fs, hr, hrun, hended, hW, hsame⟩ := X54.leave (v := none) (fun _ => rfl)
  refine ⟨_, _, castTop (ef2_RnnRnnIIII m c0_a a_COMPLETED (0 : Int32) ((0 : Int32) + p1) ((0 : Int32) + p2) ((0 : Int32) + p3)) ?_, hrun, hended, _, _, rfl, ?_, ⟨_, rfl⟩, hW, hsame.mono (by decide) (by decide)⟩
  · show Steps p.tables e below (s₁.setTop (mkF m 0 #[.val (.ref c0_a), .val .null, .val .null, .val (.ref a_COMPLETED), .val .null, .val .null, .val (.int 0), .val (.int ((0 : Int32) + p1)), .val (.int ((0 : Int32) + p2)), .val (.int ((0 : Int32) + p3))] [])) _
    refine XS.aloadN X0.here hx rfl (hb hby d2_0) rfl rfl ?_
    show Steps p.tables e below (s₁.setTop (mkF m 1 #[.val (.ref c0_a), .val .null, .val .null, .val (.ref a_COMPLETED), .val .null, .val .null, .val (.int 0), .val (.int ((0 : Int32) + p1)), .val (.int ((0 : Int32) + p2)), .val (.int ((0 : Int32) + p3))] [(.ref c0_a)])) _
    refine st1.trans ?_
    refine XS.aloadN X1.here hx rfl (hb hby d2_4) rfl rfl ?_
    refine XS.aloadN X1.here hx rfl (hb hby d2_5) rfl rfl ?_
    show Steps p.tables e below (T1.setTop (mkF m 6 #[.val (.ref c0_a), .val .null, .val .null, .val (.ref a_COMPLETED), .val .null, .val .null, .val (.int 0), .val (.int ((0 : Int32) + p1)), .val (.int ((0 : Int32) + p2)), .val (.int ((0 : Int32) + p3))] [.null, (.ref c0_a)])) _
    refine st2 _ ?_
    refine XS.aloadN X2.here hx rfl (hb hby d2_9) rfl rfl ?_
    refine XS.aloadN X2.here hx rfl (hb hby d2_10) rfl rfl ?_
    show Steps p.tables e below (T2.setTop (mkF m 11 #[.val (.ref c0_a), .val .null, .val .null, .val (.ref a_COMPLETED), .val .null, .val .null, .val (.int 0), .val (.int ((0 : Int32) + p1)), .val (.int ((0 : Int32) + p2)), .val (.int ((0 : Int32) + p3))] [.null, (.ref c0_a)])) _
    refine st5 _ ?_
    refine XS.aloadN X5.here hx rfl (hb hby d2_14) rfl rfl ?_
    refine XS.aloadN X5.here hx rfl (hb hby d2_15) rfl rfl ?_
    show Steps p.tables e below (T5.setTop (mkF m 16 #[.val (.ref c0_a), .val .null, .val .null, .val (.ref a_COMPLETED), .val .null, .val .null, .val (.int 0), .val (.int ((0 : Int32) + p1)), .val (.int ((0 : Int32) + p2)), .val (.int ((0 : Int32) + p3))] [(.ref a_COMPLETED), (.ref c0_a)])) _
    refine st9 _ ?_
    refine XS.aloadN X9.here hx rfl (hb hby d2_19) rfl rfl ?_
    refine XS.aload X9.here hx rfl (hb hby d2_20) rfl rfl ?_
    show Steps p.tables e below (T9.setTop (mkF m 22 #[.val (.ref c0_a), .val .null, .val .null, .val (.ref a_COMPLETED), .val .null, .val .null, .val (.int 0), .val (.int ((0 : Int32) + p1)), .val (.int ((0 : Int32) + p2)), .val (.int ((0 : Int32) + p3))] [.null, (.ref c0_a)])) _
    refine st14 _ ?_
    refine XS.aloadN X14.here hx rfl (hb hby d2_25) rfl rfl ?_
    refine XS.aload X14.here hx rfl (hb hby d2_26) rfl rfl ?_
    show Steps p.tables e below (T14.setTop (mkF m 28 #[.val (.ref c0_a), .val .null, .val .null, .val (.ref a_COMPLETED), .val .null, .val .null, .val (.int 0), .val (.int ((0 : Int32) + p1)), .val (.int ((0 : Int32) + p2)), .val (.int ((0 : Int32) + p3))] [.null, (.ref c0_a)])) _
    refine st20 _ ?_
    refine XS.aloadN X20.here hx rfl (hb hby d2_31) rfl rfl ?_
    refine XS.iload X20.here hx rfl (hb hby d2_32) rfl ?_
    show Steps p.tables e below (T20.setTop (mkF m 34 #[.val (.ref c0_a), .val .null, .val .null, .val (.ref a_COMPLETED), .val .null, .val .null, .val (.int 0), .val (.int ((0 : Int32) + p1)), .val (.int ((0 : Int32) + p2)), .val (.int ((0 : Int32) + p3))] [(.int 0), (.ref c0_a)])) _
    refine st27 _ ?_
    refine XS.aloadN X27.here hx rfl (hb hby d2_37) rfl rfl ?_
    refine XS.iload X27.here hx rfl (hb hby d2_38) rfl ?_
    show Steps p.tables e below (T27.setTop (mkF m 40 #[.val (.ref c0_a), .val .null, .val .null, .val (.ref a_COMPLETED), .val .null, .val .null, .val (.int 0), .val (.int ((0 : Int32) + p1)), .val (.int ((0 : Int32) + p2)), .val (.int ((0 : Int32) + p3))] [(.int ((0 : Int32) + p1)), (.ref c0_a)])) _
    refine st35 _ ?_
    refine XS.aloadN X35.here hx rfl (hb hby d2_43) rfl rfl ?_
    refine XS.iload X35.here hx rfl (hb hby d2_44) rfl ?_
    show Steps p.tables e below (T35.setTop (mkF m 46 #[.val (.ref c0_a), .val .null, .val .null, .val (.ref a_COMPLETED), .val .null, .val .null, .val (.int 0), .val (.int ((0 : Int32) + p1)), .val (.int ((0 : Int32) + p2)), .val (.int ((0 : Int32) + p3))] [(.int ((0 : Int32) + p2)), (.ref c0_a)])) _
    refine st44 _ ?_
    refine XS.aloadN X44.here hx rfl (hb hby d2_49) rfl rfl ?_
    refine XS.iload X44.here hx rfl (hb hby d2_50) rfl ?_
    show Steps p.tables e below (T44.setTop (mkF m 52 #[.val (.ref c0_a), .val .null, .val .null, .val (.ref a_COMPLETED), .val .null, .val .null, .val (.int 0), .val (.int ((0 : Int32) + p1)), .val (.int ((0 : Int32) + p2)), .val (.int ((0 : Int32) + p3))] [(.int ((0 : Int32) + p3)), (.ref c0_a)])) _
    refine st54 _ ?_
    show Steps p.tables e below (T54.setTop (mkF m 55 #[.val (.ref c0_a), .val .null, .val .null, .val (.ref a_COMPLETED), .val .null, .val .null, .val (.int 0), .val (.int ((0 : Int32) + p1)), .val (.int ((0 : Int32) + p2)), .val (.int ((0 : Int32) + p3))] [])) _
    exact X54.returnOut hx Bd.returns (hb hby d2_55) hr
  · show Q2_30 Z c0_a a_COMPLETED p1 p2 p3 h0 n0 _ T54.heap _
    rw [e54]
    exact ⟨rfl, N54, KK54, u62, u69, u75, u80, u84, u87, u89, u90, Fw54⟩
theorem d6_57 : decode prog_2_method_5_code 57 = .ok (.areturn, 1) := by decide +kernel
abbrev M_4 : MethodName := ⟨"com/example/corestone/corestone/BulkRequest", "ended", "(Ljava/time/Instant;)Lcom/example/corestone/corestone/BulkRequest;"⟩
theorem ef6_Rn (m : MethodId) (x0 : Addr) : entryFrame m #[(.ref x0), .null] 2 = mkF m 0 #[.val (.ref x0), .val .null] [] := by first | (simp [entryFrame, mkF, argsToLocals, Value.category]; done) | rfl
def Q6_32 (Z : State) (a_COMPLETED : Addr) (p1 : Int32) (p2 : Int32) (p3 : Int32) (h0 : Heap) (n0 : Nat) (v : Option Value) (h : Heap) (L : List Loc) : Prop := ∃ (b28 : Addr), v = (some (.ref b28)) ∧ Fr n0 L ∧ Keep h0 h [] ∧ h0.size ≤ b28 ∧ E_1 Z h b28 ∧ F_1 Z h b28 .null ∧ F_2 Z h b28 .null ∧ F_3 Z h b28 (.ref a_COMPLETED) ∧ F_4 Z h b28 .null ∧ F_5 Z h b28 .null ∧ F_6 Z h b28 (.int 0) ∧ F_7 Z h b28 (.int ((0 : Int32) + p1)) ∧ F_8 Z h b28 (.int ((0 : Int32) + p2)) ∧ F_9 Z h b28 (.int ((0 : Int32) + p3))
set_option maxRecDepth 65536 in
set_option maxHeartbeats 40000000 in
theorem rm6_31 (l : Launch) (Z : State) (a0 : Array Value) (hw : ∀ d ∈ tables_1, d.before a0 Z = true) (ws : List Jvm.Cond) (c0_a : Addr) (p1 : Int32) (p2 : Int32) (a_COMPLETED : Addr) (p3 : Int32) (h0 : Heap) (n0 : Nat) (Z0 : n0 ≤ h0.size) (f1 : F_1 Z h0 c0_a .null) (f2 : F_2 Z h0 c0_a .null) (f3 : F_7 Z h0 c0_a (.int ((0 : Int32) + p1))) (f4 : F_8 Z h0 c0_a (.int ((0 : Int32) + p2))) (f5 : (0 : Int32) < (((0 : Int32) + p1) + ((0 : Int32) + p2))) (f6 : S_2 Z h0 (.ref a_COMPLETED)) (f7 : F_4 Z h0 c0_a .null) (f8 : F_6 Z h0 c0_a (.int 0)) (f9 : F_9 Z h0 c0_a (.int ((0 : Int32) + p3))) :
    MetFree l M_4 (head1 (Jvm.Cond.code M_4 prog_2_method_5_code 2 (some (.object "com/example/corestone/corestone/BulkRequest")) :: ws) R_3_1_9_46) (fun a U => a = #[(.ref c0_a), .null] ∧ Z.Warmed39 U.vm ∧ U.heap = h0) (fun _ _ _ _ _ => True) (fun _ U o U' => ∃ v L, o = .returned v ∧ Q6_32 Z a_COMPLETED p1 p2 p3 h0 n0 v U'.heap L ∧ FrameEnd U o U' L R_3_1_9_46.cells R_3_1_9_46.slots) := by
  refine MetFree.of_bodySF (plainFor_of_name pn_com_example_corestone_corestone_BulkRequest) hisR ?_
  intro p e s m args below meth c s₁ Bd hml0 hP hK
  obtain ⟨rfl, hZ, hh⟩ := hP
  have hx := Bd.exec
  have hby := Bd.bytes
  have hml : c.maxLocals = 2 := hml0
  have hown : s.vm.findClass "com/example/corestone/corestone/BulkRequest" = some m.cls := findClass_of_methodNamed Bd.named
  have hnm := (name_of_methodNamed Bd.named Bd.method).1
  have X0 : Stand p l e R_3_1_9_46 s m #[(.ref c0_a), .null] below meth c s₁ [] 0 0 := Stand.of_body Bd
  have e0 : s₁.heap = h0 := by rw [← hh, Bd.state]; rfl
  have N0 := Fr.nil n0
  obtain ⟨T1, h1, X1, e1, E1, A1, D1, -, st1⟩ := newO X0 hx hZ hown (tw_7 hw) (tw_8 hw) (tw_5 hw) e0 (g := (mkF m 0 #[.val (.ref c0_a), .val .null] [])) rfl (hb hby d6_0) (by decide) (by decide)
  obtain ⟨b28, g1⟩ : ∃ z, z = h0.size := ⟨_, rfl⟩
  rw [← g1] at A1 D1 st1
  have sz_b28 : h0.size ≤ b28 := Nat.le_trans (Nat.le_refl _) (Nat.le_of_eq g1.symm)
  have g_b28 : n0 ≤ b28 := Nat.le_trans Z0 sz_b28
  have KK1 : Keep h0 h1 [] := (Keep.refl h0 []).ext E1
  have F1_22 : F_1 Z h1 b28 .null := D1 (Or.inr (tw_22 hw)) (ty := (.object "java/lang/String")) (by decide)
  have F1_24 : F_2 Z h1 b28 .null := D1 (Or.inr (tw_24 hw)) (ty := (.object "java/lang/String")) (by decide)
  have F1_26 : F_3 Z h1 b28 .null := D1 (Or.inr (tw_26 hw)) (ty := (.object "com/example/corestone/corestone/BulkRequest$Status")) (by decide)
  have F1_28 : F_4 Z h1 b28 .null := D1 (Or.inr (tw_28 hw)) (ty := (.object "java/time/Instant")) (by decide)
  have F1_30 : F_5 Z h1 b28 .null := D1 (Or.inr (tw_30 hw)) (ty := (.object "java/time/Instant")) (by decide)
  have F1_32 : F_6 Z h1 b28 (.int 0) := D1 (Or.inr (tw_32 hw)) (ty := .int) (by decide)
  have F1_34 : F_7 Z h1 b28 (.int 0) := D1 (Or.inr (tw_34 hw)) (ty := .int) (by decide)
  have F1_36 : F_8 Z h1 b28 (.int 0) := D1 (Or.inr (tw_36 hw)) (ty := .int) (by decide)
  have F1_38 : F_9 Z h1 b28 (.int 0) := D1 (Or.inr (tw_38 hw)) (ty := .int) (by decide)
  have u2 : F_1 Z h1 c0_a .null := Fld.ext E1 f1
  obtain ⟨T3, X3, e3, st3⟩ := getF X1 hx hZ hown (host := "") (Or.inl (tw_21 hw)) Via.refl e1 u2 (g := (mkF m 5 #[.val (.ref c0_a), .val .null] [(.ref c0_a), (.ref b28), (.ref b28)])) rfl rfl (hb hby d6_5)
  have u4 : F_2 Z h1 c0_a .null := Fld.ext E1 f2
  obtain ⟨T5, X5, e5, st5⟩ := getF X3 hx hZ hown (host := "") (Or.inl (tw_23 hw)) Via.refl e3 u4 (g := (mkF m 9 #[.val (.ref c0_a), .val .null] [(.ref c0_a), .null, (.ref b28), (.ref b28)])) rfl rfl (hb hby d6_9)
  have u6 : F_7 Z h1 c0_a (.int ((0 : Int32) + p1)) := Fld.ext E1 f3
  obtain ⟨T7, X7, e7, st7⟩ := getF X5 hx hZ hown (host := "") (Or.inl (tw_33 hw)) Via.refl e5 u6 (g := (mkF m 13 #[.val (.ref c0_a), .val .null] [(.ref c0_a), .null, .null, (.ref b28), (.ref b28)])) rfl rfl (hb hby d6_13)
  have u8 : F_8 Z h1 c0_a (.int ((0 : Int32) + p2)) := Fld.ext E1 f4
  obtain ⟨T9, X9, e9, st9⟩ := getF X7 hx hZ hown (host := "") (Or.inl (tw_35 hw)) Via.refl e7 u8 (g := (mkF m 17 #[.val (.ref c0_a), .val .null] [(.ref c0_a), (.int ((0 : Int32) + p1)), .null, .null, (.ref b28), (.ref b28)])) rfl rfl (hb hby d6_17)
  have u10 : S_2 Z h1 (.ref a_COMPLETED) := Sta.ext E1 f6
  obtain ⟨T11, X11, e11, st11⟩ := getS2 X9 hx hZ hown (host := "") (Or.inl (tw_51 hw)) Via.refl e9 u10 (g := (mkF m 24 #[.val (.ref c0_a), .val .null] [.null, .null, (.ref b28), (.ref b28)])) rfl (hb hby d6_24)
  have u12 : F_4 Z h1 c0_a .null := Fld.ext E1 f7
  obtain ⟨T13, X13, e13, st13⟩ := getF X11 hx hZ hown (host := "") (Or.inl (tw_27 hw)) Via.refl e11 u12 (g := (mkF m 34 #[.val (.ref c0_a), .val .null] [(.ref c0_a), (.ref a_COMPLETED), .null, .null, (.ref b28), (.ref b28)])) rfl rfl (hb hby d6_34)
  have u14 : F_6 Z h1 c0_a (.int 0) := Fld.ext E1 f8
  obtain ⟨T15, X15, e15, st15⟩ := getF X13 hx hZ hown (host := "") (Or.inl (tw_31 hw)) Via.refl e13 u14 (g := (mkF m 39 #[.val (.ref c0_a), .val .null] [(.ref c0_a), .null, .null, (.ref a_COMPLETED), .null, .null, (.ref b28), (.ref b28)])) rfl rfl (hb hby d6_39)
  obtain ⟨T16, X16, e16, st16⟩ := getF X15 hx hZ hown (host := "") (Or.inl (tw_33 hw)) Via.refl e15 u6 (g := (mkF m 43 #[.val (.ref c0_a), .val .null] [(.ref c0_a), (.int 0), .null, .null, (.ref a_COMPLETED), .null, .null, (.ref b28), (.ref b28)])) rfl rfl (hb hby d6_43)
  obtain ⟨T17, X17, e17, st17⟩ := getF X16 hx hZ hown (host := "") (Or.inl (tw_35 hw)) Via.refl e16 u8 (g := (mkF m 47 #[.val (.ref c0_a), .val .null] [(.ref c0_a), (.int ((0 : Int32) + p1)), (.int 0), .null, .null, (.ref a_COMPLETED), .null, .null, (.ref b28), (.ref b28)])) rfl rfl (hb hby d6_47)
  have u18 : F_9 Z h1 c0_a (.int ((0 : Int32) + p3)) := Fld.ext E1 f9
  obtain ⟨T19, X19, e19, st19⟩ := getF X17 hx hZ hown (host := "") (Or.inl (tw_37 hw)) Via.refl e17 u18 (g := (mkF m 51 #[.val (.ref c0_a), .val .null] [(.ref c0_a), (.int ((0 : Int32) + p2)), (.int ((0 : Int32) + p1)), (.int 0), .null, .null, (.ref a_COMPLETED), .null, .null, (.ref b28), (.ref b28)])) rfl rfl (hb hby d6_51)
  -- pc 54: com/example/corestone/corestone/BulkRequest.<init>
  obtain ⟨_, _, ⟨T20, L20, k20, n20⟩, -, X20, ⟨Lc20, hQ20, l20, y20, z20⟩, st20⟩ := X19.specialBack hx (y := M_1) rfl hown (mvT hZ (tw_10 hw)) (mvT hZ (tw_11 hw)) (mvT hZ (tw_12 hw)) (by decide) (backOf (W := 1) (rm2_29 l Z a0 hw [] b28 a_COMPLETED p1 p2 p3 h1 n0 (Nat.le_trans Z0 KK1.1) F1_22 A1 g_b28 F1_24 F1_26 F1_28 F1_30 F1_32 F1_34 F1_36 F1_38) hZ (tw_12 hw) (tw_5 hw) (by decide) (by decide)) (g := (mkF m 54 #[.val (.ref c0_a), .val .null] [(.int ((0 : Int32) + p3)), (.int ((0 : Int32) + p2)), (.int ((0 : Int32) + p1)), (.int 0), .null, .null, (.ref a_COMPLETED), .null, .null, (.ref b28), (.ref b28)])) rfl (by rw [hml]; rfl) (Steps.refl _) (a := b28) (argsL := [.null, .null, (.ref a_COMPLETED), .null, .null, (.int 0), (.int ((0 : Int32) + p1)), (.int ((0 : Int32) + p2)), (.int ((0 : Int32) + p3))]) (rest := [(.ref b28)]) (lenOf pd_1 rfl) rfl (by show 2 * 0 + _ ≤ _; exact Nat.le_of_eq rfl) (hb hby d6_54) (fun _ _ => ⟨rfl, e19, (by decide : 1 + 0 ≤ _), (by decide : 9 + 0 ≤ _)⟩)
  dsimp only [Pt.U, Pt.locs, Pt.cells, Pt.slots] at X20 l20 y20 z20 st20 hQ20
  subst l20 y20 z20
  obtain ⟨rfl, Nq20, K20, o20_0, o20_1, o20_2, o20_3, o20_4, o20_5, o20_6, o20_7, o20_8⟩ := hQ20
  have N20 := Fr.app N0 Nq20
  have KK20 : Keep h0 T20.heap [] := KK1.trans K20 (fun x hx => (List.mem_cons.mp hx).elim (fun q => q ▸ (Or.inr sz_b28)) (fun hx => nomatch hx))
  have u21 : E_1 Z T20.heap b28 := Exa.keep A1 K20
  obtain ⟨fs, hr, hrun, hended, hW, hsame⟩ := X20.leave (v := (some (.ref b28))) (fun h => by rw [Bd.returns] at h; cases h)
  refine ⟨_, _, castTop (ef6_Rn m c0_a) ?_, hrun, hended, _, _, rfl, ?_, ⟨_, rfl⟩, hW, hsame.mono (by decide) (by decide)⟩
  · show Steps p.tables e below (s₁.setTop (mkF m 0 #[.val (.ref c0_a), .val .null] [])) _
    refine st1 _ ?_
    refine XS.dup X1.here hx rfl (hb hby d6_3) rfl rfl ?_
    refine XS.aloadN X1.here hx rfl (hb hby d6_4) rfl rfl ?_
    show Steps p.tables e below (T1.setTop (mkF m 5 #[.val (.ref c0_a), .val .null] [(.ref c0_a), (.ref b28), (.ref b28)])) _
    refine st3 _ ?_
    refine XS.aloadN X3.here hx rfl (hb hby d6_8) rfl rfl ?_
    show Steps p.tables e below (T3.setTop (mkF m 9 #[.val (.ref c0_a), .val .null] [(.ref c0_a), .null, (.ref b28), (.ref b28)])) _
    refine st5 _ ?_
    refine XS.aloadN X5.here hx rfl (hb hby d6_12) rfl rfl ?_
    show Steps p.tables e below (T5.setTop (mkF m 13 #[.val (.ref c0_a), .val .null] [(.ref c0_a), .null, .null, (.ref b28), (.ref b28)])) _
    refine st7 _ ?_
    refine XS.aloadN X7.here hx rfl (hb hby d6_16) rfl rfl ?_
    show Steps p.tables e below (T7.setTop (mkF m 17 #[.val (.ref c0_a), .val .null] [(.ref c0_a), (.int ((0 : Int32) + p1)), .null, .null, (.ref b28), (.ref b28)])) _
    refine st9 _ ?_
    show Steps p.tables e below (T9.setTop (mkF m 20 #[.val (.ref c0_a), .val .null] [(.int ((0 : Int32) + p2)), (.int ((0 : Int32) + p1)), .null, .null, (.ref b28), (.ref b28)])) _
    refine XS.iadd X9.here hx rfl (hb hby d6_20) rfl ?_
    refine XS.ifNo X9.here hx rfl (hb hby d6_21) rfl ((if0 _ _).trans (tlt (f5 : (0 : Int32) < (((0 : Int32) + p1) + ((0 : Int32) + p2)))).2.2.2) ?_
    show Steps p.tables e below (T9.setTop (mkF m 24 #[.val (.ref c0_a), .val .null] [.null, .null, (.ref b28), (.ref b28)])) _
    refine st11 _ ?_
    refine XS.goto X11.here hx rfl (pc0 := 27) (pc' := 33) rfl (hb hby d6_27) (by decide) (by decide) ?_
    refine XS.aloadN X11.here hx rfl (hb hby d6_33) rfl rfl ?_
    show Steps p.tables e below (T11.setTop (mkF m 34 #[.val (.ref c0_a), .val .null] [(.ref c0_a), (.ref a_COMPLETED), .null, .null, (.ref b28), (.ref b28)])) _
    refine st13 _ ?_
    refine XS.aloadN X13.here hx rfl (hb hby d6_37) rfl rfl ?_
    refine XS.aloadN X13.here hx rfl (hb hby d6_38) rfl rfl ?_
    show Steps p.tables e below (T13.setTop (mkF m 39 #[.val (.ref c0_a), .val .null] [(.ref c0_a), .null, .null, (.ref a_COMPLETED), .null, .null, (.ref b28), (.ref b28)])) _
    refine st15 _ ?_
    refine XS.aloadN X15.here hx rfl (hb hby d6_42) rfl rfl ?_
    show Steps p.tables e below (T15.setTop (mkF m 43 #[.val (.ref c0_a), .val .null] [(.ref c0_a), (.int 0), .null, .null, (.ref a_COMPLETED), .null, .null, (.ref b28), (.ref b28)])) _
    refine st16 _ ?_
    refine XS.aloadN X16.here hx rfl (hb hby d6_46) rfl rfl ?_
    show Steps p.tables e below (T16.setTop (mkF m 47 #[.val (.ref c0_a), .val .null] [(.ref c0_a), (.int ((0 : Int32) + p1)), (.int 0), .null, .null, (.ref a_COMPLETED), .null, .null, (.ref b28), (.ref b28)])) _
    refine st17 _ ?_
    refine XS.aloadN X17.here hx rfl (hb hby d6_50) rfl rfl ?_
    show Steps p.tables e below (T17.setTop (mkF m 51 #[.val (.ref c0_a), .val .null] [(.ref c0_a), (.int ((0 : Int32) + p2)), (.int ((0 : Int32) + p1)), (.int 0), .null, .null, (.ref a_COMPLETED), .null, .null, (.ref b28), (.ref b28)])) _
    refine st19 _ ?_
    show Steps p.tables e below (T19.setTop (mkF m 54 #[.val (.ref c0_a), .val .null] [(.int ((0 : Int32) + p3)), (.int ((0 : Int32) + p2)), (.int ((0 : Int32) + p1)), (.int 0), .null, .null, (.ref a_COMPLETED), .null, .null, (.ref b28), (.ref b28)])) _
    refine st20.trans ?_
    show Steps p.tables e below (T20.setTop (mkF m 57 #[.val (.ref c0_a), .val .null] [(.ref b28)])) _
    jvm_step X20.here [X20.here.top, hx, (hb hby d6_57), X20.method', Bd.returns, Value.isRef, FieldType.isReference]
    first | (intro acts; rw [hr _ acts rfl rfl rfl]) | rw [hr _ _ rfl rfl rfl]
    exact Steps.refl _
  · show Q6_32 Z a_COMPLETED p1 p2 p3 h0 n0 _ T20.heap _
    exact ⟨b28, rfl, N20, KK20, sz_b28, u21, o20_0, o20_1, o20_2, o20_3, o20_4, o20_5, o20_6, o20_7, o20_8⟩
theorem pd_4 : parseMethodDescriptor "(Ljava/time/Instant;)Lcom/example/corestone/corestone/BulkRequest;" = some ⟨[(.object "java/time/Instant")], some (.object "com/example/corestone/corestone/BulkRequest")⟩ := by decide +kernel
theorem tw_49 {a0 : Array Value} {Z : State} (hw : ∀ d ∈ tables_1, d.before a0 Z = true) : (Jvm.Cond.selects "com/example/corestone/corestone/BulkRequest" ({ cls := "com/example/corestone/corestone/BulkRequest", name := "ended", desc := "(Ljava/time/Instant;)Lcom/example/corestone/corestone/BulkRequest;" } : Jvm.MethodName) ({ cls := "com/example/corestone/corestone/BulkRequest", name := "ended", desc := "(Ljava/time/Instant;)Lcom/example/corestone/corestone/BulkRequest;" } : Jvm.MethodName)).before a0 Z = true := hw _ (List.mem_of_getElem? (i := 49) rfl)
theorem tw_47 {a0 : Array Value} {Z : State} (hw : ∀ d ∈ tables_1, d.before a0 Z = true) : (Jvm.Cond.declares ({ cls := "com/example/corestone/corestone/BulkRequest", name := "ended", desc := "(Ljava/time/Instant;)Lcom/example/corestone/corestone/BulkRequest;" } : Jvm.MethodName)).before a0 Z = true := hw _ (List.mem_of_getElem? (i := 47) rfl)
theorem tw_48 {a0 : Array Value} {Z : State} (hw : ∀ d ∈ tables_1, d.before a0 Z = true) : (Jvm.Cond.instanceMethod ({ cls := "com/example/corestone/corestone/BulkRequest", name := "ended", desc := "(Ljava/time/Instant;)Lcom/example/corestone/corestone/BulkRequest;" } : Jvm.MethodName)).before a0 Z = true := hw _ (List.mem_of_getElem? (i := 48) rfl)
theorem tw_53 {a0 : Array Value} {Z : State} (hw : ∀ d ∈ tables_1, d.before a0 Z = true) : (Jvm.Cond.methodLink "com/example/corestone/corestone/StatusEndedPinLaw" (36 : Nat) ({ cls := "com/example/corestone/corestone/BulkRequest$Status", name := "ended", desc := "()Z" } : Jvm.MethodName)).before a0 Z = true := hw _ (List.mem_of_getElem? (i := 53) rfl)
theorem tw_57 {a0 : Array Value} {Z : State} (hw : ∀ d ∈ tables_1, d.before a0 Z = true) : (Jvm.Cond.code ({ cls := "com/example/corestone/corestone/BulkRequest$Status", name := "ended", desc := "()Z" } : Jvm.MethodName) prog_5_method_4_code (1 : Nat) (Option.some Jvm.ClassFile.FieldType.boolean)).before a0 Z = true := hw _ (List.mem_of_getElem? (i := 57) rfl)
theorem d7_0 : decode prog_5_method_4_code 0 = .ok (.aload_n 0, 1) := by decide +kernel
theorem d7_1 : decode prog_5_method_4_code 1 = .ok (.getstatic 10, 3) := by decide +kernel
theorem tw_58 {a0 : Array Value} {Z : State} (hw : ∀ d ∈ tables_1, d.before a0 Z = true) : (Jvm.Cond.fieldLink "com/example/corestone/corestone/BulkRequest$Status" (10 : Nat) "com/example/corestone/corestone/BulkRequest$Status" "COMPLETED" "Lcom/example/corestone/corestone/BulkRequest$Status;").before a0 Z = true := hw _ (List.mem_of_getElem? (i := 58) rfl)
theorem d7_4 : decode prog_5_method_4_code 4 = .ok (.if_acmp .eq 10, 3) := by decide +kernel
theorem d7_7 : decode prog_5_method_4_code 7 = .ok (.aload_n 0, 1) := by decide +kernel
theorem d7_8 : decode prog_5_method_4_code 8 = .ok (.getstatic 13, 3) := by decide +kernel
theorem tw_59 {a0 : Array Value} {Z : State} (hw : ∀ d ∈ tables_1, d.before a0 Z = true) : (Jvm.Cond.fieldLink "com/example/corestone/corestone/BulkRequest$Status" (13 : Nat) "com/example/corestone/corestone/BulkRequest$Status" "FAILED" "Lcom/example/corestone/corestone/BulkRequest$Status;").before a0 Z = true := hw _ (List.mem_of_getElem? (i := 59) rfl)
theorem d7_11 : decode prog_5_method_4_code 11 = .ok (.if_acmp .ne 7, 3) := by decide +kernel
theorem d7_18 : decode prog_5_method_4_code 18 = .ok (.iconst 0, 1) := by decide +kernel
theorem d7_19 : decode prog_5_method_4_code 19 = .ok (.ireturn, 1) := by decide +kernel
abbrev R_0_0_0_0 : Room := { frames := 0, cells := 0, slots := 0, locals := 0 }
abbrev M_5 : MethodName := ⟨"com/example/corestone/corestone/BulkRequest$Status", "ended", "()Z"⟩
theorem ef7_R (m : MethodId) (x0 : Addr) : entryFrame m #[(.ref x0)] 1 = mkF m 0 #[.val (.ref x0)] [] := by first | (simp [entryFrame, mkF, argsToLocals, Value.category]; done) | rfl
theorem pn_com_example_corestone_corestone_BulkRequest_Status : plainName "com/example/corestone/corestone/BulkRequest$Status" = true := by first | (simp [plainName, overriddenIn]; done) | decide +kernel
set_option maxRecDepth 65536 in
set_option maxHeartbeats 40000000 in
theorem rm7_34 (l : Launch) (Z : State) (a0 : Array Value) (hw : ∀ d ∈ tables_1, d.before a0 Z = true) (ws : List Jvm.Cond) (a_QUEUED : Addr) (a_COMPLETED : Addr) (a_FAILED : Addr) (h0 : Heap) (n0 : Nat) (Z0 : n0 ≤ h0.size) (f1 : S_2 Z h0 (.ref a_COMPLETED)) (f2 : a_QUEUED ≠ a_COMPLETED) (f3 : S_3 Z h0 (.ref a_FAILED)) (f4 : a_QUEUED ≠ a_FAILED) :
    MetFree l M_5 (head1 (Jvm.Cond.code M_5 prog_5_method_4_code 1 (some .boolean) :: ws) R_0_0_0_0) (fun a U => a = #[(.ref a_QUEUED)] ∧ Z.Warmed39 U.vm ∧ U.heap = h0) (fun _ _ _ _ _ => True) (fun _ U o U' => ∃ v L, o = .returned v ∧ QP (some (.int 0)) h0 n0 v U'.heap L ∧ FrameEnd U o U' L R_0_0_0_0.cells R_0_0_0_0.slots) := by
  refine MetFree.of_bodySF (plainFor_of_name pn_com_example_corestone_corestone_BulkRequest_Status) hisR ?_
  intro p e s m args below meth c s₁ Bd hml0 hP hK
  obtain ⟨rfl, hZ, hh⟩ := hP
  have hx := Bd.exec
  have hby := Bd.bytes
  have hml : c.maxLocals = 1 := hml0
  have hown : s.vm.findClass "com/example/corestone/corestone/BulkRequest$Status" = some m.cls := findClass_of_methodNamed Bd.named
  have hnm := (name_of_methodNamed Bd.named Bd.method).1
  have X0 : Stand p l e R_0_0_0_0 s m #[(.ref a_QUEUED)] below meth c s₁ [] 0 0 := Stand.of_body Bd
  have e0 : s₁.heap = h0 := by rw [← hh, Bd.state]; rfl
  have N0 := Fr.nil n0
  obtain ⟨T1, X1, e1, st1⟩ := getS2 X0 hx hZ hown (host := "") (Or.inl (tw_58 hw)) Via.refl e0 f1 (g := (mkF m 1 #[.val (.ref a_QUEUED)] [(.ref a_QUEUED)])) rfl (hb hby d7_1)
  obtain ⟨T2, X2, e2, st2⟩ := getS2 X1 hx hZ hown (host := "") (Or.inl (tw_59 hw)) Via.refl e1 f3 (g := (mkF m 8 #[.val (.ref a_QUEUED)] [(.ref a_QUEUED)])) rfl (hb hby d7_8)
  obtain ⟨fs, hr, hrun, hended, hW, hsame⟩ := X2.leave (v := (some (.int 0))) (fun h => by rw [Bd.returns] at h; cases h)
  refine ⟨_, _, castTop (ef7_R m a_QUEUED) ?_, hrun, hended, _, _, rfl, ?_, ⟨_, rfl⟩, hW, hsame.mono (by decide) (by decide)⟩
  · show Steps p.tables e below (s₁.setTop (mkF m 0 #[.val (.ref a_QUEUED)] [])) _
    refine XS.aloadN X0.here hx rfl (hb hby d7_0) rfl rfl ?_
    show Steps p.tables e below (s₁.setTop (mkF m 1 #[.val (.ref a_QUEUED)] [(.ref a_QUEUED)])) _
    refine st1 _ ?_
    show Steps p.tables e below (T1.setTop (mkF m 4 #[.val (.ref a_QUEUED)] [(.ref a_COMPLETED), (.ref a_QUEUED)])) _
    refine Jvm.RoadKit.acmp (g := (mkF m 4 #[.val (.ref a_QUEUED)] [(.ref a_COMPLETED), (.ref a_QUEUED)])) X1 hx rfl rfl rfl (pc0 := 4) (pc' := 7) (same := false) rfl (hb hby d7_4) rfl (decide_eq_false fun q => f2 (Value.ref.inj q)) (by decide) (by decide) ?_
    refine XS.aloadN X1.here hx rfl (hb hby d7_7) rfl rfl ?_
    show Steps p.tables e below (T1.setTop (mkF m 8 #[.val (.ref a_QUEUED)] [(.ref a_QUEUED)])) _
    refine st2 _ ?_
    show Steps p.tables e below (T2.setTop (mkF m 11 #[.val (.ref a_QUEUED)] [(.ref a_FAILED), (.ref a_QUEUED)])) _
    refine Jvm.RoadKit.acmp (g := (mkF m 11 #[.val (.ref a_QUEUED)] [(.ref a_FAILED), (.ref a_QUEUED)])) X2 hx rfl rfl rfl (pc0 := 11) (pc' := 18) (same := false) rfl (hb hby d7_11) rfl (decide_eq_false fun q => f4 (Value.ref.inj q)) (by decide) (by decide) ?_
    refine XS.iconst X2.here hx rfl (hb hby d7_18) ?_
    show Steps p.tables e below (T2.setTop (mkF m 19 #[.val (.ref a_QUEUED)] [(.int 0)])) _
    exact retN X2 hx (t := .boolean) Bd.returns (by simp) (hb hby d7_19) hr
  · show QP (some (.int 0)) h0 n0 _ T2.heap _
    rw [e2]
    exact ⟨rfl, N0, rfl⟩
theorem pd_5 : parseMethodDescriptor "()Z" = some ⟨[], some .boolean⟩ := by decide +kernel
theorem tw_56 {a0 : Array Value} {Z : State} (hw : ∀ d ∈ tables_1, d.before a0 Z = true) : (Jvm.Cond.selects "com/example/corestone/corestone/BulkRequest$Status" ({ cls := "com/example/corestone/corestone/BulkRequest$Status", name := "ended", desc := "()Z" } : Jvm.MethodName) ({ cls := "com/example/corestone/corestone/BulkRequest$Status", name := "ended", desc := "()Z" } : Jvm.MethodName)).before a0 Z = true := hw _ (List.mem_of_getElem? (i := 56) rfl)
theorem tw_54 {a0 : Array Value} {Z : State} (hw : ∀ d ∈ tables_1, d.before a0 Z = true) : (Jvm.Cond.declares ({ cls := "com/example/corestone/corestone/BulkRequest$Status", name := "ended", desc := "()Z" } : Jvm.MethodName)).before a0 Z = true := hw _ (List.mem_of_getElem? (i := 54) rfl)
theorem tw_55 {a0 : Array Value} {Z : State} (hw : ∀ d ∈ tables_1, d.before a0 Z = true) : (Jvm.Cond.instanceMethod ({ cls := "com/example/corestone/corestone/BulkRequest$Status", name := "ended", desc := "()Z" } : Jvm.MethodName)).before a0 Z = true := hw _ (List.mem_of_getElem? (i := 55) rfl)
theorem tw_61 {a0 : Array Value} {Z : State} (hw : ∀ d ∈ tables_1, d.before a0 Z = true) : (Jvm.Cond.methodLink "com/example/corestone/corestone/StatusEndedPinLaw" (39 : Nat) ({ cls := "com/example/corestone/corestone/BulkRequest", name := "status", desc := "()Lcom/example/corestone/corestone/BulkRequest$Status;" } : Jvm.MethodName)).before a0 Z = true := hw _ (List.mem_of_getElem? (i := 61) rfl)
theorem tw_65 {a0 : Array Value} {Z : State} (hw : ∀ d ∈ tables_1, d.before a0 Z = true) : (Jvm.Cond.code ({ cls := "com/example/corestone/corestone/BulkRequest", name := "status", desc := "()Lcom/example/corestone/corestone/BulkRequest$Status;" } : Jvm.MethodName) prog_2_method_11_code (1 : Nat) (Option.some (Jvm.ClassFile.FieldType.object "com/example/corestone/corestone/BulkRequest$Status"))).before a0 Z = true := hw _ (List.mem_of_getElem? (i := 65) rfl)
theorem d8_0 : decode prog_2_method_11_code 0 = .ok (.aload_n 0, 1) := by decide +kernel
theorem d8_1 : decode prog_2_method_11_code 1 = .ok (.getfield 16, 3) := by decide +kernel
theorem d8_4 : decode prog_2_method_11_code 4 = .ok (.areturn, 1) := by decide +kernel
abbrev M_6 : MethodName := ⟨"com/example/corestone/corestone/BulkRequest", "status", "()Lcom/example/corestone/corestone/BulkRequest$Status;"⟩
theorem ef8_R (m : MethodId) (x0 : Addr) : entryFrame m #[(.ref x0)] 1 = mkF m 0 #[.val (.ref x0)] [] := by first | (simp [entryFrame, mkF, argsToLocals, Value.category]; done) | rfl
set_option maxRecDepth 65536 in
set_option maxHeartbeats 40000000 in
theorem rm8_35 (l : Launch) (Z : State) (a0 : Array Value) (hw : ∀ d ∈ tables_1, d.before a0 Z = true) (ws : List Jvm.Cond) (c0_a : Addr) (a_QUEUED : Addr) (h0 : Heap) (n0 : Nat) (Z0 : n0 ≤ h0.size) (f1 : F_3 Z h0 c0_a (.ref a_QUEUED)) :
    MetFree l M_6 (head1 (Jvm.Cond.code M_6 prog_2_method_11_code 1 (some (.object "com/example/corestone/corestone/BulkRequest$Status")) :: ws) R_0_0_0_0) (fun a U => a = #[(.ref c0_a)] ∧ Z.Warmed39 U.vm ∧ U.heap = h0) (fun _ _ _ _ _ => True) (fun _ U o U' => ∃ v L, o = .returned v ∧ QP (some (.ref a_QUEUED)) h0 n0 v U'.heap L ∧ FrameEnd U o U' L R_0_0_0_0.cells R_0_0_0_0.slots) := by
  refine MetFree.of_bodySF (plainFor_of_name pn_com_example_corestone_corestone_BulkRequest) hisR ?_
  intro p e s m args below meth c s₁ Bd hml0 hP hK
  obtain ⟨rfl, hZ, hh⟩ := hP
  have hx := Bd.exec
  have hby := Bd.bytes
  have hml : c.maxLocals = 1 := hml0
  have hown : s.vm.findClass "com/example/corestone/corestone/BulkRequest" = some m.cls := findClass_of_methodNamed Bd.named
  have hnm := (name_of_methodNamed Bd.named Bd.method).1
  have X0 : Stand p l e R_0_0_0_0 s m #[(.ref c0_a)] below meth c s₁ [] 0 0 := Stand.of_body Bd
  have e0 : s₁.heap = h0 := by rw [← hh, Bd.state]; rfl
  have N0 := Fr.nil n0
  obtain ⟨T1, X1, e1, st1⟩ := getF X0 hx hZ hown (host := "") (Or.inl (tw_25 hw)) Via.refl e0 f1 (g := (mkF m 1 #[.val (.ref c0_a)] [(.ref c0_a)])) rfl rfl (hb hby d8_1)
  obtain ⟨fs, hr, hrun, hended, hW, hsame⟩ := X1.leave (v := (some (.ref a_QUEUED))) (fun h => by rw [Bd.returns] at h; cases h)
  refine ⟨_, _, castTop (ef8_R m c0_a) ?_, hrun, hended, _, _, rfl, ?_, ⟨_, rfl⟩, hW, hsame.mono (by decide) (by decide)⟩
  · show Steps p.tables e below (s₁.setTop (mkF m 0 #[.val (.ref c0_a)] [])) _
    refine XS.aloadN X0.here hx rfl (hb hby d8_0) rfl rfl ?_
    show Steps p.tables e below (s₁.setTop (mkF m 1 #[.val (.ref c0_a)] [(.ref c0_a)])) _
    refine st1 _ ?_
    show Steps p.tables e below (T1.setTop (mkF m 4 #[.val (.ref c0_a)] [(.ref a_QUEUED)])) _
    jvm_step X1.here [X1.here.top, hx, (hb hby d8_4), X1.method', Bd.returns, Value.isRef, FieldType.isReference]
    first | (intro acts; rw [hr _ acts rfl rfl rfl]) | rw [hr _ _ rfl rfl rfl]
    exact Steps.refl _
  · show QP (some (.ref a_QUEUED)) h0 n0 _ T1.heap _
    rw [e1]
    exact ⟨rfl, N0, rfl⟩
theorem pd_6 : parseMethodDescriptor "()Lcom/example/corestone/corestone/BulkRequest$Status;" = some ⟨[], some (.object "com/example/corestone/corestone/BulkRequest$Status")⟩ := by decide +kernel
theorem tw_64 {a0 : Array Value} {Z : State} (hw : ∀ d ∈ tables_1, d.before a0 Z = true) : (Jvm.Cond.selects "com/example/corestone/corestone/BulkRequest" ({ cls := "com/example/corestone/corestone/BulkRequest", name := "status", desc := "()Lcom/example/corestone/corestone/BulkRequest$Status;" } : Jvm.MethodName) ({ cls := "com/example/corestone/corestone/BulkRequest", name := "status", desc := "()Lcom/example/corestone/corestone/BulkRequest$Status;" } : Jvm.MethodName)).before a0 Z = true := hw _ (List.mem_of_getElem? (i := 64) rfl)
theorem tw_62 {a0 : Array Value} {Z : State} (hw : ∀ d ∈ tables_1, d.before a0 Z = true) : (Jvm.Cond.declares ({ cls := "com/example/corestone/corestone/BulkRequest", name := "status", desc := "()Lcom/example/corestone/corestone/BulkRequest$Status;" } : Jvm.MethodName)).before a0 Z = true := hw _ (List.mem_of_getElem? (i := 62) rfl)
theorem tw_63 {a0 : Array Value} {Z : State} (hw : ∀ d ∈ tables_1, d.before a0 Z = true) : (Jvm.Cond.instanceMethod ({ cls := "com/example/corestone/corestone/BulkRequest", name := "status", desc := "()Lcom/example/corestone/corestone/BulkRequest$Status;" } : Jvm.MethodName)).before a0 Z = true := hw _ (List.mem_of_getElem? (i := 63) rfl)
set_option maxRecDepth 65536 in
set_option maxHeartbeats 40000000 in
theorem rm8_36 (l : Launch) (Z : State) (a0 : Array Value) (hw : ∀ d ∈ tables_1, d.before a0 Z = true) (ws : List Jvm.Cond) (c0_a : Addr) (a_RUNNING : Addr) (h0 : Heap) (n0 : Nat) (Z0 : n0 ≤ h0.size) (f1 : F_3 Z h0 c0_a (.ref a_RUNNING)) :
    MetFree l M_6 (head1 (Jvm.Cond.code M_6 prog_2_method_11_code 1 (some (.object "com/example/corestone/corestone/BulkRequest$Status")) :: ws) R_0_0_0_0) (fun a U => a = #[(.ref c0_a)] ∧ Z.Warmed39 U.vm ∧ U.heap = h0) (fun _ _ _ _ _ => True) (fun _ U o U' => ∃ v L, o = .returned v ∧ QP (some (.ref a_RUNNING)) h0 n0 v U'.heap L ∧ FrameEnd U o U' L R_0_0_0_0.cells R_0_0_0_0.slots) := by
  refine MetFree.of_bodySF (plainFor_of_name pn_com_example_corestone_corestone_BulkRequest) hisR ?_
  intro p e s m args below meth c s₁ Bd hml0 hP hK
  obtain ⟨rfl, hZ, hh⟩ := hP
  have hx := Bd.exec
  have hby := Bd.bytes
  have hml : c.maxLocals = 1 := hml0
  have hown : s.vm.findClass "com/example/corestone/corestone/BulkRequest" = some m.cls := findClass_of_methodNamed Bd.named
  have hnm := (name_of_methodNamed Bd.named Bd.method).1
  have X0 : Stand p l e R_0_0_0_0 s m #[(.ref c0_a)] below meth c s₁ [] 0 0 := Stand.of_body Bd
  have e0 : s₁.heap = h0 := by rw [← hh, Bd.state]; rfl
  have N0 := Fr.nil n0
  obtain ⟨T1, X1, e1, st1⟩ := getF X0 hx hZ hown (host := "") (Or.inl (tw_25 hw)) Via.refl e0 f1 (g := (mkF m 1 #[.val (.ref c0_a)] [(.ref c0_a)])) rfl rfl (hb hby d8_1)
  obtain ⟨fs, hr, hrun, hended, hW, hsame⟩ := X1.leave (v := (some (.ref a_RUNNING))) (fun h => by rw [Bd.returns] at h; cases h)
  refine ⟨_, _, castTop (ef8_R m c0_a) ?_, hrun, hended, _, _, rfl, ?_, ⟨_, rfl⟩, hW, hsame.mono (by decide) (by decide)⟩
  · show Steps p.tables e below (s₁.setTop (mkF m 0 #[.val (.ref c0_a)] [])) _
    refine XS.aloadN X0.here hx rfl (hb hby d8_0) rfl rfl ?_
    show Steps p.tables e below (s₁.setTop (mkF m 1 #[.val (.ref c0_a)] [(.ref c0_a)])) _
    refine st1 _ ?_
    show Steps p.tables e below (T1.setTop (mkF m 4 #[.val (.ref c0_a)] [(.ref a_RUNNING)])) _
    jvm_step X1.here [X1.here.top, hx, (hb hby d8_4), X1.method', Bd.returns, Value.isRef, FieldType.isReference]
    first | (intro acts; rw [hr _ acts rfl rfl rfl]) | rw [hr _ _ rfl rfl rfl]
    exact Steps.refl _
  · show QP (some (.ref a_RUNNING)) h0 n0 _ T1.heap _
    rw [e1]
    exact ⟨rfl, N0, rfl⟩
set_option maxRecDepth 65536 in
set_option maxHeartbeats 40000000 in
theorem rm7_37 (l : Launch) (Z : State) (a0 : Array Value) (hw : ∀ d ∈ tables_1, d.before a0 Z = true) (ws : List Jvm.Cond) (a_RUNNING : Addr) (a_COMPLETED : Addr) (a_FAILED : Addr) (h0 : Heap) (n0 : Nat) (Z0 : n0 ≤ h0.size) (f1 : S_2 Z h0 (.ref a_COMPLETED)) (f2 : a_COMPLETED ≠ a_RUNNING) (f3 : S_3 Z h0 (.ref a_FAILED)) (f4 : a_FAILED ≠ a_RUNNING) :
    MetFree l M_5 (head1 (Jvm.Cond.code M_5 prog_5_method_4_code 1 (some .boolean) :: ws) R_0_0_0_0) (fun a U => a = #[(.ref a_RUNNING)] ∧ Z.Warmed39 U.vm ∧ U.heap = h0) (fun _ _ _ _ _ => True) (fun _ U o U' => ∃ v L, o = .returned v ∧ QP (some (.int 0)) h0 n0 v U'.heap L ∧ FrameEnd U o U' L R_0_0_0_0.cells R_0_0_0_0.slots) := by
  refine MetFree.of_bodySF (plainFor_of_name pn_com_example_corestone_corestone_BulkRequest_Status) hisR ?_
  intro p e s m args below meth c s₁ Bd hml0 hP hK
  obtain ⟨rfl, hZ, hh⟩ := hP
  have hx := Bd.exec
  have hby := Bd.bytes
  have hml : c.maxLocals = 1 := hml0
  have hown : s.vm.findClass "com/example/corestone/corestone/BulkRequest$Status" = some m.cls := findClass_of_methodNamed Bd.named
  have hnm := (name_of_methodNamed Bd.named Bd.method).1
  have X0 : Stand p l e R_0_0_0_0 s m #[(.ref a_RUNNING)] below meth c s₁ [] 0 0 := Stand.of_body Bd
  have e0 : s₁.heap = h0 := by rw [← hh, Bd.state]; rfl
  have N0 := Fr.nil n0
  obtain ⟨T1, X1, e1, st1⟩ := getS2 X0 hx hZ hown (host := "") (Or.inl (tw_58 hw)) Via.refl e0 f1 (g := (mkF m 1 #[.val (.ref a_RUNNING)] [(.ref a_RUNNING)])) rfl (hb hby d7_1)
  obtain ⟨T2, X2, e2, st2⟩ := getS2 X1 hx hZ hown (host := "") (Or.inl (tw_59 hw)) Via.refl e1 f3 (g := (mkF m 8 #[.val (.ref a_RUNNING)] [(.ref a_RUNNING)])) rfl (hb hby d7_8)
  obtain ⟨fs, hr, hrun, hended, hW, hsame⟩ := X2.leave (v := (some (.int 0))) (fun h => by rw [Bd.returns] at h; cases h)
  refine ⟨_, _, castTop (ef7_R m a_RUNNING) ?_, hrun, hended, _, _, rfl, ?_, ⟨_, rfl⟩, hW, hsame.mono (by decide) (by decide)⟩
  · show Steps p.tables e below (s₁.setTop (mkF m 0 #[.val (.ref a_RUNNING)] [])) _
    refine XS.aloadN X0.here hx rfl (hb hby d7_0) rfl rfl ?_
    show Steps p.tables e below (s₁.setTop (mkF m 1 #[.val (.ref a_RUNNING)] [(.ref a_RUNNING)])) _
    refine st1 _ ?_
    show Steps p.tables e below (T1.setTop (mkF m 4 #[.val (.ref a_RUNNING)] [(.ref a_COMPLETED), (.ref a_RUNNING)])) _
    refine Jvm.RoadKit.acmp (g := (mkF m 4 #[.val (.ref a_RUNNING)] [(.ref a_COMPLETED), (.ref a_RUNNING)])) X1 hx rfl rfl rfl (pc0 := 4) (pc' := 7) (same := false) rfl (hb hby d7_4) rfl (decide_eq_false fun q => (Ne.symm f2) (Value.ref.inj q)) (by decide) (by decide) ?_
    refine XS.aloadN X1.here hx rfl (hb hby d7_7) rfl rfl ?_
    show Steps p.tables e below (T1.setTop (mkF m 8 #[.val (.ref a_RUNNING)] [(.ref a_RUNNING)])) _
    refine st2 _ ?_
    show Steps p.tables e below (T2.setTop (mkF m 11 #[.val (.ref a_RUNNING)] [(.ref a_FAILED), (.ref a_RUNNING)])) _
    refine Jvm.RoadKit.acmp (g := (mkF m 11 #[.val (.ref a_RUNNING)] [(.ref a_FAILED), (.ref a_RUNNING)])) X2 hx rfl rfl rfl (pc0 := 11) (pc' := 18) (same := false) rfl (hb hby d7_11) rfl (decide_eq_false fun q => (Ne.symm f4) (Value.ref.inj q)) (by decide) (by decide) ?_
    refine XS.iconst X2.here hx rfl (hb hby d7_18) ?_
    show Steps p.tables e below (T2.setTop (mkF m 19 #[.val (.ref a_RUNNING)] [(.int 0)])) _
    exact retN X2 hx (t := .boolean) Bd.returns (by simp) (hb hby d7_19) hr
  · show QP (some (.int 0)) h0 n0 _ T2.heap _
    rw [e2]
    exact ⟨rfl, N0, rfl⟩
set_option maxRecDepth 65536 in
set_option maxHeartbeats 40000000 in
theorem rm8_38 (l : Launch) (Z : State) (a0 : Array Value) (hw : ∀ d ∈ tables_1, d.before a0 Z = true) (ws : List Jvm.Cond) (c0_a : Addr) (a_COMPLETED : Addr) (h0 : Heap) (n0 : Nat) (Z0 : n0 ≤ h0.size) (f1 : F_3 Z h0 c0_a (.ref a_COMPLETED)) :
    MetFree l M_6 (head1 (Jvm.Cond.code M_6 prog_2_method_11_code 1 (some (.object "com/example/corestone/corestone/BulkRequest$Status")) :: ws) R_0_0_0_0) (fun a U => a = #[(.ref c0_a)] ∧ Z.Warmed39 U.vm ∧ U.heap = h0) (fun _ _ _ _ _ => True) (fun _ U o U' => ∃ v L, o = .returned v ∧ QP (some (.ref a_COMPLETED)) h0 n0 v U'.heap L ∧ FrameEnd U o U' L R_0_0_0_0.cells R_0_0_0_0.slots) := by
  refine MetFree.of_bodySF (plainFor_of_name pn_com_example_corestone_corestone_BulkRequest) hisR ?_
  intro p e s m args below meth c s₁ Bd hml0 hP hK
  obtain ⟨rfl, hZ, hh⟩ := hP
  have hx := Bd.exec
  have hby := Bd.bytes
  have hml : c.maxLocals = 1 := hml0
  have hown : s.vm.findClass "com/example/corestone/corestone/BulkRequest" = some m.cls := findClass_of_methodNamed Bd.named
  have hnm := (name_of_methodNamed Bd.named Bd.method).1
  have X0 : Stand p l e R_0_0_0_0 s m #[(.ref c0_a)] below meth c s₁ [] 0 0 := Stand.of_body Bd
  have e0 : s₁.heap = h0 := by rw [← hh, Bd.state]; rfl
  have N0 := Fr.nil n0
  obtain ⟨T1, X1, e1, st1⟩ := getF X0 hx hZ hown (host := "") (Or.inl (tw_25 hw)) Via.refl e0 f1 (g := (mkF m 1 #[.val (.ref c0_a)] [(.ref c0_a)])) rfl rfl (hb hby d8_1)
  obtain ⟨fs, hr, hrun, hended, hW, hsame⟩ := X1.leave (v := (some (.ref a_COMPLETED))) (fun h => by rw [Bd.returns] at h; cases h)
  refine ⟨_, _, castTop (ef8_R m c0_a) ?_, hrun, hended, _, _, rfl, ?_, ⟨_, rfl⟩, hW, hsame.mono (by decide) (by decide)⟩
  · show Steps p.tables e below (s₁.setTop (mkF m 0 #[.val (.ref c0_a)] [])) _
    refine XS.aloadN X0.here hx rfl (hb hby d8_0) rfl rfl ?_
    show Steps p.tables e below (s₁.setTop (mkF m 1 #[.val (.ref c0_a)] [(.ref c0_a)])) _
    refine st1 _ ?_
    show Steps p.tables e below (T1.setTop (mkF m 4 #[.val (.ref c0_a)] [(.ref a_COMPLETED)])) _
    jvm_step X1.here [X1.here.top, hx, (hb hby d8_4), X1.method', Bd.returns, Value.isRef, FieldType.isReference]
    first | (intro acts; rw [hr _ acts rfl rfl rfl]) | rw [hr _ _ rfl rfl rfl]
    exact Steps.refl _
  · show QP (some (.ref a_COMPLETED)) h0 n0 _ T1.heap _
    rw [e1]
    exact ⟨rfl, N0, rfl⟩
theorem d7_14 : decode prog_5_method_4_code 14 = .ok (.iconst 1, 1) := by decide +kernel
theorem d7_15 : decode prog_5_method_4_code 15 = .ok (.goto 4, 3) := by decide +kernel
set_option maxRecDepth 65536 in
set_option maxHeartbeats 40000000 in
theorem rm7_39 (l : Launch) (Z : State) (a0 : Array Value) (hw : ∀ d ∈ tables_1, d.before a0 Z = true) (ws : List Jvm.Cond) (a_COMPLETED : Addr) (h0 : Heap) (n0 : Nat) (Z0 : n0 ≤ h0.size) (f1 : S_2 Z h0 (.ref a_COMPLETED)) :
    MetFree l M_5 (head1 (Jvm.Cond.code M_5 prog_5_method_4_code 1 (some .boolean) :: ws) R_0_0_0_0) (fun a U => a = #[(.ref a_COMPLETED)] ∧ Z.Warmed39 U.vm ∧ U.heap = h0) (fun _ _ _ _ _ => True) (fun _ U o U' => ∃ v L, o = .returned v ∧ QP (some (.int 1)) h0 n0 v U'.heap L ∧ FrameEnd U o U' L R_0_0_0_0.cells R_0_0_0_0.slots) := by
  refine MetFree.of_bodySF (plainFor_of_name pn_com_example_corestone_corestone_BulkRequest_Status) hisR ?_
  intro p e s m args below meth c s₁ Bd hml0 hP hK
  obtain ⟨rfl, hZ, hh⟩ := hP
  have hx := Bd.exec
  have hby := Bd.bytes
  have hml : c.maxLocals = 1 := hml0
  have hown : s.vm.findClass "com/example/corestone/corestone/BulkRequest$Status" = some m.cls := findClass_of_methodNamed Bd.named
  have hnm := (name_of_methodNamed Bd.named Bd.method).1
  have X0 : Stand p l e R_0_0_0_0 s m #[(.ref a_COMPLETED)] below meth c s₁ [] 0 0 := Stand.of_body Bd
  have e0 : s₁.heap = h0 := by rw [← hh, Bd.state]; rfl
  have N0 := Fr.nil n0
  obtain ⟨T1, X1, e1, st1⟩ := getS2 X0 hx hZ hown (host := "") (Or.inl (tw_58 hw)) Via.refl e0 f1 (g := (mkF m 1 #[.val (.ref a_COMPLETED)] [(.ref a_COMPLETED)])) rfl (hb hby d7_1)
  obtain ⟨fs, hr, hrun, hended, hW, hsame⟩ := X1.leave (v := (some (.int 1))) (fun h => by rw [Bd.returns] at h; cases h)
  refine ⟨_, _, castTop (ef7_R m a_COMPLETED) ?_, hrun, hended, _, _, rfl, ?_, ⟨_, rfl⟩, hW, hsame.mono (by decide) (by decide)⟩
  · show Steps p.tables e below (s₁.setTop (mkF m 0 #[.val (.ref a_COMPLETED)] [])) _
    refine XS.aloadN X0.here hx rfl (hb hby d7_0) rfl rfl ?_
    show Steps p.tables e below (s₁.setTop (mkF m 1 #[.val (.ref a_COMPLETED)] [(.ref a_COMPLETED)])) _
    refine st1 _ ?_
    show Steps p.tables e below (T1.setTop (mkF m 4 #[.val (.ref a_COMPLETED)] [(.ref a_COMPLETED), (.ref a_COMPLETED)])) _
    refine Jvm.RoadKit.acmp (g := (mkF m 4 #[.val (.ref a_COMPLETED)] [(.ref a_COMPLETED), (.ref a_COMPLETED)])) X1 hx rfl rfl rfl (pc0 := 4) (pc' := 14) (same := true) rfl (hb hby d7_4) rfl (decide_eq_true rfl) (by decide) (by decide) ?_
    refine XS.iconst X1.here hx rfl (hb hby d7_14) ?_
    refine XS.goto X1.here hx rfl (pc0 := 15) (pc' := 19) rfl (hb hby d7_15) (by decide) (by decide) ?_
    show Steps p.tables e below (T1.setTop (mkF m 19 #[.val (.ref a_COMPLETED)] [(.int 1)])) _
    exact retN X1 hx (t := .boolean) Bd.returns (by simp) (hb hby d7_19) hr
  · show QP (some (.int 1)) h0 n0 _ T1.heap _
    rw [e1]
    exact ⟨rfl, N0, rfl⟩
theorem ef0_IIII (m : MethodId) (x0 : Int32) (x1 : Int32) (x2 : Int32) (x3 : Int32) : entryFrame m #[(.int x0), (.int x1), (.int x2), (.int x3)] maxLocals = mkF m 0 #[.val (.int x0), .val (.int x1), .val (.int x2), .val (.int x3), .unset, .unset, .unset, .unset, .unset, .unset] [] := by first | (simp [entryFrame, mkF, argsToLocals, Value.category, maxLocals]; done) | rfl
theorem pn_com_example_corestone_corestone_StatusEndedPinLaw : plainName "com/example/corestone/corestone/StatusEndedPinLaw" = true := by first | (simp [plainName, overriddenIn]; done) | decide +kernel
set_option maxRecDepth 65536 in
set_option maxHeartbeats 40000000 in
theorem rm0_40 (l : Launch) (Z : State) (a0 : Array Value) (hw : ∀ d ∈ tables_1, d.before a0 Z = true) (ws : List Jvm.Cond) (p0 : Int32) (p1 : Int32) (p2 : Int32) (p3 : Int32) (a_QUEUED : Addr) (a_RUNNING : Addr) (a_COMPLETED : Addr) (a_FAILED : Addr) (h0 : Heap) (n0 : Nat) (Z0 : n0 ≤ h0.size) (f1 : (p0 &&& (3 : Int32)) = (0 : Int32)) (f2 : S_0 Z h0 (.ref a_QUEUED)) (f3 : S_1 Z h0 (.ref a_RUNNING)) (f4 : (0 : Int32) < (((0 : Int32) + p1) + ((0 : Int32) + p2))) (f5 : S_2 Z h0 (.ref a_COMPLETED)) (f6 : a_QUEUED ≠ a_COMPLETED) (f7 : S_3 Z h0 (.ref a_FAILED)) (f8 : a_QUEUED ≠ a_FAILED) (f9 : E_0 Z h0 a_QUEUED) (f10 : a_COMPLETED ≠ a_RUNNING) (f11 : a_FAILED ≠ a_RUNNING) (f12 : E_0 Z h0 a_RUNNING) (f13 : E_0 Z h0 a_COMPLETED) :
    MetFree l x (head1 (Jvm.Cond.code x code maxLocals ret :: ws) room_1) (fun a U => a = #[(.int p0), (.int p1), (.int p2), (.int p3)] ∧ Z.Warmed39 U.vm ∧ U.heap = h0) (fun _ _ _ _ _ => True) (fun _ U o U' => ∃ v L, o = .returned v ∧ QT n0 v U'.heap L ∧ FrameEnd U o U' L room_1.cells room_1.slots) := by
  refine MetFree.of_bodySF (plainFor_of_name pn_com_example_corestone_corestone_StatusEndedPinLaw) hisR ?_
  intro p e s m args below meth c s₁ Bd hml0 hP hK
  obtain ⟨rfl, hZ, hh⟩ := hP
  have hx := Bd.exec
  have hby := Bd.bytes
  have hml : c.maxLocals = 10 := hml0
  have hown : s.vm.findClass "com/example/corestone/corestone/StatusEndedPinLaw" = some m.cls := findClass_of_methodNamed Bd.named
  have hnm := (name_of_methodNamed Bd.named Bd.method).1
  have X0 : Stand p l e room_1 s m #[(.int p0), (.int p1), (.int p2), (.int p3)] below meth c s₁ [] 0 0 := Stand.of_body Bd
  have e0 : s₁.heap = h0 := by rw [← hh, Bd.state]; rfl
  have N0 := Fr.nil n0
  obtain ⟨T1, X1, e1, st1⟩ := getS2 X0 hx hZ hown (host := "") (Or.inl (tw_0 hw)) Via.refl e0 f2 (g := (mkF m 10 #[.val (.int p0), .val (.int p1), .val (.int p2), .val (.int p3), .val (.int 0), .unset, .unset, .unset, .unset, .unset] [])) rfl (hb hby at_10)
  -- pc 67: com/example/corestone/corestone/BulkRequest.queued
  obtain ⟨_, _, ⟨T2, L2, k2, n2⟩, -, X2, ⟨Lc2, hQ2, l2, y2, z2⟩, st2⟩ := Jvm.LawKit.callS X1 hx (y := M_2) hown (mvT hZ (tw_3 hw)) (mvT hZ (tw_4 hw)) (mvT hZ (tw_5 hw)) (mvT hZ (tw_6 hw)) (by decide) (backOf (W := 0) (rm1_19 l Z a0 hw [] a_QUEUED h0 n0 Z0 f2) hZ (tw_6 hw) (tw_5 hw) (by decide) (by decide)) (g := (mkF m 67 #[.val (.int p0), .val (.int p1), .val (.int p2), .val (.int p3), .val (.int 0), .val (.ref a_QUEUED), .val (.int 0), .unset, .unset, .unset] [.null, (.int 0), .null, .null])) rfl (by rw [hml]; rfl) (argsL := [.null, .null, (.int 0), .null]) (rest := []) (lenOf pd_2 rfl) rfl (by show 2 * 0 + _ ≤ _; exact Nat.le_of_eq rfl) (hb hby at_67) (fun _ _ => ⟨rfl, e1, (by decide : 0 + 1 ≤ _), (by decide : 0 + 9 ≤ _)⟩)
  dsimp only [Pt.U, Pt.locs, Pt.cells, Pt.slots] at X2 l2 y2 z2 st2 hQ2
  subst l2 y2 z2
  obtain ⟨b21, rfl, Nq2, K2, le_b21, o2_0, o2_1, o2_2, o2_3, o2_4, o2_5, o2_6, o2_7, o2_8, o2_9⟩ := hQ2
  have N2 := Fr.app N0 Nq2
  have sz_b21 : h0.size ≤ b21 := Nat.le_trans (Nat.le_refl _) le_b21
  have g_b21 : n0 ≤ b21 := Nat.le_trans Z0 sz_b21
  have KK2 : Keep h0 T2.heap [] := (Keep.refl h0 []).trans K2 (fun x hx => nomatch hx)
  -- pc 78: com/example/corestone/corestone/BulkRequest.running
  have u3 : S_1 Z T2.heap (.ref a_RUNNING) := own_sta_keep f3 K2 (fun _ q => nomatch q)
  obtain ⟨cq4, kq4, q4a, q4b, q4c⟩ := isOf hZ rfl o2_0
  obtain ⟨_, _, ⟨T4, L4, k4, n4⟩, -, X4, ⟨Lc4, hQ4, l4, y4, z4⟩, st4⟩ := X2.virtualBack hx (y := M_3) (z := M_3) hown (mvT hZ (tw_39 hw)) (mvT hZ (tw_40 hw)) (notFace_of_selects (args := #[]) (mvT hZ (tw_42 hw))) (mvT hZ (tw_42 hw)) (mvT hZ (tw_41 hw)) (by decide) (backOf (W := 0) (rm5_25 l Z a0 hw [] b21 p1 p2 p3 a_RUNNING T2.heap n0 (Nat.le_trans Z0 KK2.1) o2_1 o2_2 u3 o2_4 o2_6 o2_7 o2_8 o2_9) hZ (tw_43 hw) (tw_5 hw) (by decide) (by decide)) q4a q4c (g := (mkF m 78 #[.val (.int p0), .val (.int p1), .val (.int p2), .val (.int p3), .val (.int 0), .val (.ref a_QUEUED), .val (.int 0), .val (.ref b21), .unset, .unset] [.null, (.int p3), (.int p2), (.int p1), (.ref b21)])) rfl (by rw [hml]; rfl) (Steps.refl _) (argsL := [(.int p1), (.int p2), (.int p3), .null]) (rest := []) (lenOf pd_3 rfl) rfl (by show 2 * 0 + _ ≤ _; exact Nat.le_of_eq rfl) (hb hby at_78) (fun _ _ => ⟨rfl, rfl, (by decide : 1 + 1 ≤ _), (by decide : 9 + 9 ≤ _)⟩)
  dsimp only [Pt.U, Pt.locs, Pt.cells, Pt.slots] at X4 l4 y4 z4 st4 hQ4
  subst l4 y4 z4
  obtain ⟨b27, rfl, Nq4, K4, le_b27, o4_0, o4_1, o4_2, o4_3, o4_4, o4_5, o4_6, o4_7, o4_8, o4_9⟩ := hQ4
  have N4 := Fr.app N2 Nq4
  have sz_b27 : h0.size ≤ b27 := Nat.le_trans KK2.1 le_b27
  have g_b27 : n0 ≤ b27 := Nat.le_trans Z0 sz_b27
  have KK4 : Keep h0 T4.heap [] := KK2.trans K4 (fun x hx => nomatch hx)
  -- pc 86: com/example/corestone/corestone/BulkRequest.ended
  have u5 : S_2 Z T2.heap (.ref a_COMPLETED) := own_sta_keep f5 K2 (fun _ q => nomatch q)
  have u6 : S_2 Z T4.heap (.ref a_COMPLETED) := own_sta_keep u5 K4 (fun _ q => nomatch q)
  obtain ⟨cq7, kq7, q7a, q7b, q7c⟩ := isOf hZ rfl o4_0
  obtain ⟨_, _, ⟨T7, L7, k7, n7⟩, -, X7, ⟨Lc7, hQ7, l7, y7, z7⟩, st7⟩ := X4.virtualBack hx (y := M_4) (z := M_4) hown (mvT hZ (tw_46 hw)) (mvT hZ (tw_47 hw)) (notFace_of_selects (args := #[]) (mvT hZ (tw_49 hw))) (mvT hZ (tw_49 hw)) (mvT hZ (tw_48 hw)) (by decide) (backOf (W := 0) (rm6_31 l Z a0 hw [] b27 p1 p2 a_COMPLETED p3 T4.heap n0 (Nat.le_trans Z0 KK4.1) o4_1 o4_2 o4_7 o4_8 f4 u6 o4_4 o4_6 o4_9) hZ (tw_50 hw) (tw_5 hw) (by decide) (by decide)) q7a q7c (g := (mkF m 86 #[.val (.int p0), .val (.int p1), .val (.int p2), .val (.int p3), .val (.int 0), .val (.ref a_QUEUED), .val (.int 0), .val (.ref b21), .val (.ref b27), .unset] [.null, (.ref b27)])) rfl (by rw [hml]; rfl) (Steps.refl _) (argsL := [.null]) (rest := []) (lenOf pd_4 rfl) rfl (by show 2 * 0 + _ ≤ _; exact Nat.le_of_eq rfl) (hb hby at_86) (fun _ _ => ⟨rfl, rfl, (by decide : 2 + 1 ≤ _), (by decide : 18 + 9 ≤ _)⟩)
  dsimp only [Pt.U, Pt.locs, Pt.cells, Pt.slots] at X7 l7 y7 z7 st7 hQ7
  subst l7 y7 z7
  obtain ⟨b33, rfl, Nq7, K7, le_b33, o7_0, o7_1, o7_2, o7_3, o7_4, o7_5, o7_6, o7_7, o7_8, o7_9⟩ := hQ7
  have N7 := Fr.app N4 Nq7
  have sz_b33 : h0.size ≤ b33 := Nat.le_trans KK4.1 le_b33
  have g_b33 : n0 ≤ b33 := Nat.le_trans Z0 sz_b33
  have KK7 : Keep h0 T7.heap [] := KK4.trans K7 (fun x hx => nomatch hx)
  -- pc 93: com/example/corestone/corestone/BulkRequest$Status.ended
  have u8 : S_2 Z T7.heap (.ref a_COMPLETED) := own_sta_keep u6 K7 (fun _ q => nomatch q)
  have u9 : S_3 Z T2.heap (.ref a_FAILED) := own_sta_keep f7 K2 (fun _ q => nomatch q)
  have u10 : S_3 Z T4.heap (.ref a_FAILED) := own_sta_keep u9 K4 (fun _ q => nomatch q)
  have u11 : S_3 Z T7.heap (.ref a_FAILED) := own_sta_keep u10 K7 (fun _ q => nomatch q)
  have u13 : E_0 Z T2.heap a_QUEUED := Exa.keep f9 K2
  have u14 : E_0 Z T4.heap a_QUEUED := Exa.keep u13 K4
  have u15 : E_0 Z T7.heap a_QUEUED := Exa.keep u14 K7
  obtain ⟨cq12, kq12, q12a, q12b, q12c⟩ := isOf hZ rfl u15
  obtain ⟨_, _, ⟨T12, L12, k12, n12⟩, -, X12, ⟨Lc12, hQ12, l12, y12, z12⟩, st12⟩ := X7.virtualBack hx (y := M_5) (z := M_5) hown (mvT hZ (tw_53 hw)) (mvT hZ (tw_54 hw)) (notFace_of_selects (args := #[]) (mvT hZ (tw_56 hw))) (mvT hZ (tw_56 hw)) (mvT hZ (tw_55 hw)) (by decide) (backOf (W := 0) (rm7_34 l Z a0 hw [] a_QUEUED a_COMPLETED a_FAILED T7.heap n0 (Nat.le_trans Z0 KK7.1) u8 f6 u11 f8) hZ (tw_57 hw) (tw_1 hw) (by decide) (by decide)) q12a q12c (g := (mkF m 93 #[.val (.int p0), .val (.int p1), .val (.int p2), .val (.int p3), .val (.int 0), .val (.ref a_QUEUED), .val (.int 0), .val (.ref b21), .val (.ref b27), .val (.ref b33)] [(.ref a_QUEUED)])) rfl (by rw [hml]; rfl) (Steps.refl _) (argsL := []) (rest := []) (lenOf pd_5 rfl) rfl (by show 2 * 0 + _ ≤ _; exact Nat.le_of_eq rfl) (hb hby at_93) (fun _ _ => ⟨rfl, rfl, (by decide : 3 + 0 ≤ _), (by decide : 27 + 0 ≤ _)⟩)
  dsimp only [Pt.U, Pt.locs, Pt.cells, Pt.slots] at X12 l12 y12 z12 st12 hQ12
  subst l12 y12 z12
  obtain ⟨rfl, Nq12, e12⟩ := hQ12
  have N12 := Fr.app N7 Nq12
  -- pc 103: com/example/corestone/corestone/BulkRequest.status
  have u16 : F_3 Z T4.heap b21 (.ref a_QUEUED) := Fld.keep o2_3 K4 List.not_mem_nil
  have u17 : F_3 Z T7.heap b21 (.ref a_QUEUED) := Fld.keep u16 K7 List.not_mem_nil
  have u19 : E_1 Z T4.heap b21 := Exa.keep o2_0 K4
  have u20 : E_1 Z T7.heap b21 := Exa.keep u19 K7
  obtain ⟨cq18, kq18, q18a, q18b, q18c⟩ := isOf hZ e12 u20
  obtain ⟨_, _, ⟨T18, L18, k18, n18⟩, -, X18, ⟨Lc18, hQ18, l18, y18, z18⟩, st18⟩ := X12.virtualBack hx (y := M_6) (z := M_6) hown (mvT hZ (tw_61 hw)) (mvT hZ (tw_62 hw)) (notFace_of_selects (args := #[]) (mvT hZ (tw_64 hw))) (mvT hZ (tw_64 hw)) (mvT hZ (tw_63 hw)) (by decide) (backOf (W := 0) (rm8_35 l Z a0 hw [] b21 a_QUEUED T7.heap n0 (Nat.le_trans Z0 KK7.1) u17) hZ (tw_65 hw) (tw_5 hw) (by decide) (by decide)) q18a q18c (g := (mkF m 103 #[.val (.int p0), .val (.int p1), .val (.int p2), .val (.int p3), .val (.int 0), .val (.ref a_QUEUED), .val (.int 0), .val (.ref b21), .val (.ref b27), .val (.ref b33)] [(.ref b21)])) rfl (by rw [hml]; rfl) (Steps.refl _) (argsL := []) (rest := []) (lenOf pd_6 rfl) rfl (by show 2 * 0 + _ ≤ _; exact Nat.le_of_eq rfl) (hb hby at_103) (fun _ _ => ⟨rfl, e12, (by decide : 3 + 0 ≤ _), (by decide : 27 + 0 ≤ _)⟩)
  dsimp only [Pt.U, Pt.locs, Pt.cells, Pt.slots] at X18 l18 y18 z18 st18 hQ18
  subst l18 y18 z18
  obtain ⟨rfl, Nq18, e18⟩ := hQ18
  have N18 := Fr.app N12 Nq18
  -- pc 106: com/example/corestone/corestone/BulkRequest$Status.ended
  obtain ⟨cq21, kq21, q21a, q21b, q21c⟩ := isOf hZ e18 u15
  obtain ⟨_, _, ⟨T21, L21, k21, n21⟩, -, X21, ⟨Lc21, hQ21, l21, y21, z21⟩, st21⟩ := X18.virtualBack hx (y := M_5) (z := M_5) hown (mvT hZ (tw_53 hw)) (mvT hZ (tw_54 hw)) (notFace_of_selects (args := #[]) (mvT hZ (tw_56 hw))) (mvT hZ (tw_56 hw)) (mvT hZ (tw_55 hw)) (by decide) (backOf (W := 0) (rm7_34 l Z a0 hw [] a_QUEUED a_COMPLETED a_FAILED T7.heap n0 (Nat.le_trans Z0 KK7.1) u8 f6 u11 f8) hZ (tw_57 hw) (tw_1 hw) (by decide) (by decide)) q21a q21c (g := (mkF m 106 #[.val (.int p0), .val (.int p1), .val (.int p2), .val (.int p3), .val (.int 0), .val (.ref a_QUEUED), .val (.int 0), .val (.ref b21), .val (.ref b27), .val (.ref b33)] [(.ref a_QUEUED)])) rfl (by rw [hml]; rfl) (Steps.refl _) (argsL := []) (rest := []) (lenOf pd_5 rfl) rfl (by show 2 * 0 + _ ≤ _; exact Nat.le_of_eq rfl) (hb hby at_106) (fun _ _ => ⟨rfl, e18, (by decide : 3 + 0 ≤ _), (by decide : 27 + 0 ≤ _)⟩)
  dsimp only [Pt.U, Pt.locs, Pt.cells, Pt.slots] at X21 l21 y21 z21 st21 hQ21
  subst l21 y21 z21
  obtain ⟨rfl, Nq21, e21⟩ := hQ21
  have N21 := Fr.app N18 Nq21
  -- pc 114: com/example/corestone/corestone/BulkRequest.status
  have u22 : F_3 Z T7.heap b27 (.ref a_RUNNING) := Fld.keep o4_3 K7 List.not_mem_nil
  have u24 : E_1 Z T7.heap b27 := Exa.keep o4_0 K7
  obtain ⟨cq23, kq23, q23a, q23b, q23c⟩ := isOf hZ e21 u24
  obtain ⟨_, _, ⟨T23, L23, k23, n23⟩, -, X23, ⟨Lc23, hQ23, l23, y23, z23⟩, st23⟩ := X21.virtualBack hx (y := M_6) (z := M_6) hown (mvT hZ (tw_61 hw)) (mvT hZ (tw_62 hw)) (notFace_of_selects (args := #[]) (mvT hZ (tw_64 hw))) (mvT hZ (tw_64 hw)) (mvT hZ (tw_63 hw)) (by decide) (backOf (W := 0) (rm8_36 l Z a0 hw [] b27 a_RUNNING T7.heap n0 (Nat.le_trans Z0 KK7.1) u22) hZ (tw_65 hw) (tw_5 hw) (by decide) (by decide)) q23a q23c (g := (mkF m 114 #[.val (.int p0), .val (.int p1), .val (.int p2), .val (.int p3), .val (.int 0), .val (.ref a_QUEUED), .val (.int 0), .val (.ref b21), .val (.ref b27), .val (.ref b33)] [(.ref b27)])) rfl (by rw [hml]; rfl) (Steps.refl _) (argsL := []) (rest := []) (lenOf pd_6 rfl) rfl (by show 2 * 0 + _ ≤ _; exact Nat.le_of_eq rfl) (hb hby at_114) (fun _ _ => ⟨rfl, e21, (by decide : 3 + 0 ≤ _), (by decide : 27 + 0 ≤ _)⟩)
  dsimp only [Pt.U, Pt.locs, Pt.cells, Pt.slots] at X23 l23 y23 z23 st23 hQ23
  subst l23 y23 z23
  obtain ⟨rfl, Nq23, e23⟩ := hQ23
  have N23 := Fr.app N21 Nq23
  -- pc 117: com/example/corestone/corestone/BulkRequest$Status.ended
  have u26 : E_0 Z T2.heap a_RUNNING := Exa.keep f12 K2
  have u27 : E_0 Z T4.heap a_RUNNING := Exa.keep u26 K4
  have u28 : E_0 Z T7.heap a_RUNNING := Exa.keep u27 K7
  obtain ⟨cq25, kq25, q25a, q25b, q25c⟩ := isOf hZ e23 u28
  obtain ⟨_, _, ⟨T25, L25, k25, n25⟩, -, X25, ⟨Lc25, hQ25, l25, y25, z25⟩, st25⟩ := X23.virtualBack hx (y := M_5) (z := M_5) hown (mvT hZ (tw_53 hw)) (mvT hZ (tw_54 hw)) (notFace_of_selects (args := #[]) (mvT hZ (tw_56 hw))) (mvT hZ (tw_56 hw)) (mvT hZ (tw_55 hw)) (by decide) (backOf (W := 0) (rm7_37 l Z a0 hw [] a_RUNNING a_COMPLETED a_FAILED T7.heap n0 (Nat.le_trans Z0 KK7.1) u8 f10 u11 f11) hZ (tw_57 hw) (tw_1 hw) (by decide) (by decide)) q25a q25c (g := (mkF m 117 #[.val (.int p0), .val (.int p1), .val (.int p2), .val (.int p3), .val (.int 0), .val (.ref a_QUEUED), .val (.int 0), .val (.ref b21), .val (.ref b27), .val (.ref b33)] [(.ref a_RUNNING)])) rfl (by rw [hml]; rfl) (Steps.refl _) (argsL := []) (rest := []) (lenOf pd_5 rfl) rfl (by show 2 * 0 + _ ≤ _; exact Nat.le_of_eq rfl) (hb hby at_117) (fun _ _ => ⟨rfl, e23, (by decide : 3 + 0 ≤ _), (by decide : 27 + 0 ≤ _)⟩)
  dsimp only [Pt.U, Pt.locs, Pt.cells, Pt.slots] at X25 l25 y25 z25 st25 hQ25
  subst l25 y25 z25
  obtain ⟨rfl, Nq25, e25⟩ := hQ25
  have N25 := Fr.app N23 Nq25
  -- pc 125: com/example/corestone/corestone/BulkRequest.status
  obtain ⟨cq29, kq29, q29a, q29b, q29c⟩ := isOf hZ e25 o7_0
  obtain ⟨_, _, ⟨T29, L29, k29, n29⟩, -, X29, ⟨Lc29, hQ29, l29, y29, z29⟩, st29⟩ := X25.virtualBack hx (y := M_6) (z := M_6) hown (mvT hZ (tw_61 hw)) (mvT hZ (tw_62 hw)) (notFace_of_selects (args := #[]) (mvT hZ (tw_64 hw))) (mvT hZ (tw_64 hw)) (mvT hZ (tw_63 hw)) (by decide) (backOf (W := 0) (rm8_38 l Z a0 hw [] b33 a_COMPLETED T7.heap n0 (Nat.le_trans Z0 KK7.1) o7_3) hZ (tw_65 hw) (tw_5 hw) (by decide) (by decide)) q29a q29c (g := (mkF m 125 #[.val (.int p0), .val (.int p1), .val (.int p2), .val (.int p3), .val (.int 0), .val (.ref a_QUEUED), .val (.int 0), .val (.ref b21), .val (.ref b27), .val (.ref b33)] [(.ref b33)])) rfl (by rw [hml]; rfl) (Steps.refl _) (argsL := []) (rest := []) (lenOf pd_6 rfl) rfl (by show 2 * 0 + _ ≤ _; exact Nat.le_of_eq rfl) (hb hby at_125) (fun _ _ => ⟨rfl, e25, (by decide : 3 + 0 ≤ _), (by decide : 27 + 0 ≤ _)⟩)
  dsimp only [Pt.U, Pt.locs, Pt.cells, Pt.slots] at X29 l29 y29 z29 st29 hQ29
  subst l29 y29 z29
  obtain ⟨rfl, Nq29, e29⟩ := hQ29
  have N29 := Fr.app N25 Nq29
  -- pc 128: com/example/corestone/corestone/BulkRequest$Status.ended
  have u31 : E_0 Z T2.heap a_COMPLETED := Exa.keep f13 K2
  have u32 : E_0 Z T4.heap a_COMPLETED := Exa.keep u31 K4
  have u33 : E_0 Z T7.heap a_COMPLETED := Exa.keep u32 K7
  obtain ⟨cq30, kq30, q30a, q30b, q30c⟩ := isOf hZ e29 u33
  obtain ⟨_, _, ⟨T30, L30, k30, n30⟩, -, X30, ⟨Lc30, hQ30, l30, y30, z30⟩, st30⟩ := X29.virtualBack hx (y := M_5) (z := M_5) hown (mvT hZ (tw_53 hw)) (mvT hZ (tw_54 hw)) (notFace_of_selects (args := #[]) (mvT hZ (tw_56 hw))) (mvT hZ (tw_56 hw)) (mvT hZ (tw_55 hw)) (by decide) (backOf (W := 0) (rm7_39 l Z a0 hw [] a_COMPLETED T7.heap n0 (Nat.le_trans Z0 KK7.1) u8) hZ (tw_57 hw) (tw_1 hw) (by decide) (by decide)) q30a q30c (g := (mkF m 128 #[.val (.int p0), .val (.int p1), .val (.int p2), .val (.int p3), .val (.int 0), .val (.ref a_QUEUED), .val (.int 0), .val (.ref b21), .val (.ref b27), .val (.ref b33)] [(.ref a_COMPLETED)])) rfl (by rw [hml]; rfl) (Steps.refl _) (argsL := []) (rest := []) (lenOf pd_5 rfl) rfl (by show 2 * 0 + _ ≤ _; exact Nat.le_of_eq rfl) (hb hby at_128) (fun _ _ => ⟨rfl, e29, (by decide : 3 + 0 ≤ _), (by decide : 27 + 0 ≤ _)⟩)
  dsimp only [Pt.U, Pt.locs, Pt.cells, Pt.slots] at X30 l30 y30 z30 st30 hQ30
  subst l30 y30 z30
  obtain ⟨rfl, Nq30, e30⟩ := hQ30
  have N30 := Fr.app N29 Nq30
  obtain ⟨fs, hr, hrun, hended, hW, hsame⟩ := X30.leave (v := (some (.int 1))) (fun h => by rw [Bd.returns] at h; cases h)
  refine ⟨_, _, castTop (ef0_IIII m p0 p1 p2 p3) ?_, hrun, hended, _, _, rfl, ?_, ⟨_, rfl⟩, hW, hsame.mono (by decide) (by decide)⟩
  · show Steps p.tables e below (s₁.setTop (mkF m 0 #[.val (.int p0), .val (.int p1), .val (.int p2), .val (.int p3), .unset, .unset, .unset, .unset, .unset, .unset] [])) _
    refine XS.iloadN X0.here hx rfl (hb hby at_0) rfl ?_
    refine XS.iconst X0.here hx rfl (hb hby at_1) ?_
    show Steps p.tables e below (s₁.setTop (mkF m 2 #[.val (.int p0), .val (.int p1), .val (.int p2), .val (.int p3), .unset, .unset, .unset, .unset, .unset, .unset] [(.int 3), (.int p0)])) _
    refine XS.iand X0.here hx rfl (hb hby at_2) rfl ?_
    show Steps p.tables e below (s₁.setTop (mkF m 3 #[.val (.int p0), .val (.int p1), .val (.int p2), .val (.int p3), .unset, .unset, .unset, .unset, .unset, .unset] [(.int (p0 &&& (3 : Int32)))])) _
    rw [f1]
    refine XS.istore X0.here hx rfl (hb hby at_3) rfl (l' := #[.val (.int p0), .val (.int p1), .val (.int p2), .val (.int p3), .val (.int 0), .unset, .unset, .unset, .unset, .unset]) rfl ?_
    refine XS.iload X0.here hx rfl (hb hby at_5) rfl ?_
    refine XS.ifNo X0.here hx rfl (hb hby at_7) rfl (by decide) ?_
    show Steps p.tables e below (s₁.setTop (mkF m 10 #[.val (.int p0), .val (.int p1), .val (.int p2), .val (.int p3), .val (.int 0), .unset, .unset, .unset, .unset, .unset] [])) _
    refine st1 _ ?_
    refine XS.astore X1.here hx rfl (hb hby at_13) rfl rfl (l' := #[.val (.int p0), .val (.int p1), .val (.int p2), .val (.int p3), .val (.int 0), .val (.ref a_QUEUED), .unset, .unset, .unset, .unset]) rfl ?_
    refine XS.iconst X1.here hx rfl (hb hby at_15) ?_
    refine XS.istore X1.here hx rfl (hb hby at_16) rfl (l' := #[.val (.int p0), .val (.int p1), .val (.int p2), .val (.int p3), .val (.int 0), .val (.ref a_QUEUED), .val (.int 0), .unset, .unset, .unset]) rfl ?_
    refine XS.goto X1.here hx rfl (pc0 := 18) (pc' := 63) rfl (hb hby at_18) (by decide) (by decide) ?_
    show Steps p.tables e below (T1.setTop (mkF m 63 #[.val (.int p0), .val (.int p1), .val (.int p2), .val (.int p3), .val (.int 0), .val (.ref a_QUEUED), .val (.int 0), .unset, .unset, .unset] [])) _
    refine XS.aconstNull X1.here hx rfl (hb hby at_63) ?_
    refine XS.aconstNull X1.here hx rfl (hb hby at_64) ?_
    refine XS.iconst X1.here hx rfl (hb hby at_65) ?_
    refine XS.aconstNull X1.here hx rfl (hb hby at_66) ?_
    show Steps p.tables e below (T1.setTop (mkF m 67 #[.val (.int p0), .val (.int p1), .val (.int p2), .val (.int p3), .val (.int 0), .val (.ref a_QUEUED), .val (.int 0), .unset, .unset, .unset] [.null, (.int 0), .null, .null])) _
    refine st2 _ ?_
    refine XS.astore X2.here hx rfl (hb hby at_70) rfl rfl (l' := #[.val (.int p0), .val (.int p1), .val (.int p2), .val (.int p3), .val (.int 0), .val (.ref a_QUEUED), .val (.int 0), .val (.ref b21), .unset, .unset]) rfl ?_
    refine XS.aload X2.here hx rfl (hb hby at_72) rfl rfl ?_
    refine XS.iloadN X2.here hx rfl (hb hby at_74) rfl ?_
    refine XS.iloadN X2.here hx rfl (hb hby at_75) rfl ?_
    show Steps p.tables e below (T2.setTop (mkF m 76 #[.val (.int p0), .val (.int p1), .val (.int p2), .val (.int p3), .val (.int 0), .val (.ref a_QUEUED), .val (.int 0), .val (.ref b21), .unset, .unset] [(.int p2), (.int p1), (.ref b21)])) _
    refine XS.iloadN X2.here hx rfl (hb hby at_76) rfl ?_
    refine XS.aconstNull X2.here hx rfl (hb hby at_77) ?_
    show Steps p.tables e below (T2.setTop (mkF m 78 #[.val (.int p0), .val (.int p1), .val (.int p2), .val (.int p3), .val (.int 0), .val (.ref a_QUEUED), .val (.int 0), .val (.ref b21), .unset, .unset] [.null, (.int p3), (.int p2), (.int p1), (.ref b21)])) _
    refine st4.trans ?_
    refine XS.astore X4.here hx rfl (hb hby at_81) rfl rfl (l' := #[.val (.int p0), .val (.int p1), .val (.int p2), .val (.int p3), .val (.int 0), .val (.ref a_QUEUED), .val (.int 0), .val (.ref b21), .val (.ref b27), .unset]) rfl ?_
    refine XS.aload X4.here hx rfl (hb hby at_83) rfl rfl ?_
    refine XS.aconstNull X4.here hx rfl (hb hby at_85) ?_
    show Steps p.tables e below (T4.setTop (mkF m 86 #[.val (.int p0), .val (.int p1), .val (.int p2), .val (.int p3), .val (.int 0), .val (.ref a_QUEUED), .val (.int 0), .val (.ref b21), .val (.ref b27), .unset] [.null, (.ref b27)])) _
    refine st7.trans ?_
    refine XS.astore X7.here hx rfl (hb hby at_89) rfl rfl (l' := #[.val (.int p0), .val (.int p1), .val (.int p2), .val (.int p3), .val (.int 0), .val (.ref a_QUEUED), .val (.int 0), .val (.ref b21), .val (.ref b27), .val (.ref b33)]) rfl ?_
    refine XS.aload X7.here hx rfl (hb hby at_91) rfl rfl ?_
    show Steps p.tables e below (T7.setTop (mkF m 93 #[.val (.int p0), .val (.int p1), .val (.int p2), .val (.int p3), .val (.int 0), .val (.ref a_QUEUED), .val (.int 0), .val (.ref b21), .val (.ref b27), .val (.ref b33)] [(.ref a_QUEUED)])) _
    refine st12.trans ?_
    refine XS.iload X12.here hx rfl (hb hby at_96) rfl ?_
    refine XS.icmpNo X12.here hx rfl (hb hby at_98) rfl (by decide) ?_
    refine XS.aload X12.here hx rfl (hb hby at_101) rfl rfl ?_
    show Steps p.tables e below (T12.setTop (mkF m 103 #[.val (.int p0), .val (.int p1), .val (.int p2), .val (.int p3), .val (.int 0), .val (.ref a_QUEUED), .val (.int 0), .val (.ref b21), .val (.ref b27), .val (.ref b33)] [(.ref b21)])) _
    refine st18.trans ?_
    show Steps p.tables e below (T18.setTop (mkF m 106 #[.val (.int p0), .val (.int p1), .val (.int p2), .val (.int p3), .val (.int 0), .val (.ref a_QUEUED), .val (.int 0), .val (.ref b21), .val (.ref b27), .val (.ref b33)] [(.ref a_QUEUED)])) _
    refine st21.trans ?_
    refine XS.ifNo X21.here hx rfl (hb hby at_109) rfl (by decide) ?_
    refine XS.aload X21.here hx rfl (hb hby at_112) rfl rfl ?_
    show Steps p.tables e below (T21.setTop (mkF m 114 #[.val (.int p0), .val (.int p1), .val (.int p2), .val (.int p3), .val (.int 0), .val (.ref a_QUEUED), .val (.int 0), .val (.ref b21), .val (.ref b27), .val (.ref b33)] [(.ref b27)])) _
    refine st23.trans ?_
    show Steps p.tables e below (T23.setTop (mkF m 117 #[.val (.int p0), .val (.int p1), .val (.int p2), .val (.int p3), .val (.int 0), .val (.ref a_QUEUED), .val (.int 0), .val (.ref b21), .val (.ref b27), .val (.ref b33)] [(.ref a_RUNNING)])) _
    refine st25.trans ?_
    refine XS.ifNo X25.here hx rfl (hb hby at_120) rfl (by decide) ?_
    refine XS.aload X25.here hx rfl (hb hby at_123) rfl rfl ?_
    show Steps p.tables e below (T25.setTop (mkF m 125 #[.val (.int p0), .val (.int p1), .val (.int p2), .val (.int p3), .val (.int 0), .val (.ref a_QUEUED), .val (.int 0), .val (.ref b21), .val (.ref b27), .val (.ref b33)] [(.ref b33)])) _
    refine st29.trans ?_
    show Steps p.tables e below (T29.setTop (mkF m 128 #[.val (.int p0), .val (.int p1), .val (.int p2), .val (.int p3), .val (.int 0), .val (.ref a_QUEUED), .val (.int 0), .val (.ref b21), .val (.ref b27), .val (.ref b33)] [(.ref a_COMPLETED)])) _
    refine st30.trans ?_
    refine XS.ifNo X30.here hx rfl (hb hby at_131) rfl (by decide) ?_
    refine XS.iconst X30.here hx rfl (hb hby at_134) ?_
    refine XS.goto X30.here hx rfl (pc0 := 135) (pc' := 139) rfl (hb hby at_135) (by decide) (by decide) ?_
    show Steps p.tables e below (T30.setTop (mkF m 139 #[.val (.int p0), .val (.int p1), .val (.int p2), .val (.int p3), .val (.int 0), .val (.ref a_QUEUED), .val (.int 0), .val (.ref b21), .val (.ref b27), .val (.ref b33)] [(.int 1)])) _
    exact retN X30 hx (t := .boolean) Bd.returns (by simp) (hb hby at_139) hr
  · show QT n0 _ T30.heap _
    rw [e30]
    exact ⟨rfl, N30⟩
theorem d6_30 : decode prog_2_method_5_code 30 = .ok (.getstatic 54, 3) := by decide +kernel
theorem tw_68 {a0 : Array Value} {Z : State} (hw : ∀ d ∈ tables_1, d.before a0 Z = true) : (Jvm.Cond.fieldLink "com/example/corestone/corestone/BulkRequest" (54 : Nat) "com/example/corestone/corestone/BulkRequest$Status" "FAILED" "Lcom/example/corestone/corestone/BulkRequest$Status;").before a0 Z = true := hw _ (List.mem_of_getElem? (i := 68) rfl)
def Q2_45 (Z : State) (c0_a : Addr) (a_FAILED : Addr) (p1 : Int32) (p2 : Int32) (p3 : Int32) (h0 : Heap) (n0 : Nat) (v : Option Value) (h : Heap) (L : List Loc) : Prop := v = none ∧ Fr n0 L ∧ Keep h0 h [c0_a] ∧ F_1 Z h c0_a .null ∧ F_2 Z h c0_a .null ∧ F_3 Z h c0_a (.ref a_FAILED) ∧ F_4 Z h c0_a .null ∧ F_5 Z h c0_a .null ∧ F_6 Z h c0_a (.int 0) ∧ F_7 Z h c0_a (.int ((0 : Int32) + p1)) ∧ F_8 Z h c0_a (.int ((0 : Int32) + p2)) ∧ F_9 Z h c0_a (.int ((0 : Int32) + p3))
set_option maxRecDepth 65536 in
set_option maxHeartbeats 40000000 in
theorem rm2_44 (l : Launch) (Z : State) (a0 : Array Value) (hw : ∀ d ∈ tables_1, d.before a0 Z = true) (ws : List Jvm.Cond) (c0_a : Addr) (a_FAILED : Addr) (p1 : Int32) (p2 : Int32) (p3 : Int32) (h0 : Heap) (n0 : Nat) (Z0 : n0 ≤ h0.size) (f1 : F_1 Z h0 c0_a .null) (f2 : E_1 Z h0 c0_a) (f3 : n0 ≤ c0_a) (f4 : F_2 Z h0 c0_a .null) (f5 : F_3 Z h0 c0_a .null) (f6 : F_4 Z h0 c0_a .null) (f7 : F_5 Z h0 c0_a .null) (f8 : F_6 Z h0 c0_a (.int 0)) (f9 : F_7 Z h0 c0_a (.int 0)) (f10 : F_8 Z h0 c0_a (.int 0)) (f11 : F_9 Z h0 c0_a (.int 0)) :
    MetFree l M_1 (head1 (Jvm.Cond.code M_1 prog_2_method_1_code 10 none :: ws) R_2_0_0_24) (fun a U => a = #[(.ref c0_a), .null, .null, (.ref a_FAILED), .null, .null, (.int 0), (.int ((0 : Int32) + p1)), (.int ((0 : Int32) + p2)), (.int ((0 : Int32) + p3))] ∧ Z.Warmed39 U.vm ∧ U.heap = h0) (fun _ _ _ _ _ => True) (fun _ U o U' => ∃ v L, o = .returned v ∧ Q2_45 Z c0_a a_FAILED p1 p2 p3 h0 n0 v U'.heap L ∧ FrameEnd U o U' L R_2_0_0_24.cells R_2_0_0_24.slots) := by
  refine MetFree.of_bodySF (plainFor_of_name pn_com_example_corestone_corestone_BulkRequest) hisR ?_
  intro p e s m args below meth c s₁ Bd hml0 hP hK
  obtain ⟨rfl, hZ, hh⟩ := hP
  have hx := Bd.exec
  have hby := Bd.bytes
  have hml : c.maxLocals = 10 := hml0
  have hown : s.vm.findClass "com/example/corestone/corestone/BulkRequest" = some m.cls := findClass_of_methodNamed Bd.named
  have hnm := (name_of_methodNamed Bd.named Bd.method).1
  have X0 : Stand p l e R_2_0_0_24 s m #[(.ref c0_a), .null, .null, (.ref a_FAILED), .null, .null, (.int 0), (.int ((0 : Int32) + p1)), (.int ((0 : Int32) + p2)), (.int ((0 : Int32) + p3))] below meth c s₁ [] 0 0 := Stand.of_body Bd
  have e0 : s₁.heap = h0 := by rw [← hh, Bd.state]; rfl
  have N0 := Fr.nil n0
  -- pc 1: java/lang/Record.<init>
  obtain ⟨_, _, ⟨T1, L1, k1, n1⟩, -, X1, ⟨Lc1, hQ1, l1, y1, z1⟩, st1⟩ := X0.specialBack hx (y := M_0) rfl hown (mvT hZ (tw_13 hw)) (mvT hZ (tw_14 hw)) (mvT hZ (tw_17 hw)) (by decide) (backOf (W := 0) (rm3_16 l Z a0 hw [] c0_a h0 n0 Z0 ) hZ (tw_17 hw) (tw_16 hw) (by decide) (by decide)) (g := (mkF m 1 #[.val (.ref c0_a), .val .null, .val .null, .val (.ref a_FAILED), .val .null, .val .null, .val (.int 0), .val (.int ((0 : Int32) + p1)), .val (.int ((0 : Int32) + p2)), .val (.int ((0 : Int32) + p3))] [(.ref c0_a)])) rfl (by rw [hml]; rfl) (Steps.refl _) (a := c0_a) (argsL := []) (rest := []) (lenOf pd_0 rfl) rfl (by show 2 * 0 + _ ≤ _; exact Nat.le_of_eq rfl) (hb hby d2_1) (fun _ _ => ⟨rfl, e0, (by decide : 0 + 0 ≤ _), (by decide : 0 + 0 ≤ _)⟩)
  dsimp only [Pt.U, Pt.locs, Pt.cells, Pt.slots] at X1 l1 y1 z1 st1 hQ1
  subst l1 y1 z1
  obtain ⟨rfl, Nq1, e1⟩ := hQ1
  have N1 := Fr.app N0 Nq1
  obtain ⟨T2, h2, X2, e2, W2, st2⟩ := putF X1 hx hZ hown (host := "") (Or.inl (tw_21 hw)) Via.refl e1 f1 f2 (Or.inr ⟨(tw_22 hw), rfl, hnm⟩) (tw_8 hw) (ty := (.object "java/lang/String")) (by decide) rfl rfl (g := (mkF m 6 #[.val (.ref c0_a), .val .null, .val .null, .val (.ref a_FAILED), .val .null, .val .null, .val (.int 0), .val (.int ((0 : Int32) + p1)), .val (.int ((0 : Int32) + p2)), .val (.int ((0 : Int32) + p3))] [.null, (.ref c0_a)])) rfl rfl (hb hby d2_6)
  have Fw2 : F_1 Z h2 c0_a .null := Fld.same W2 f1
  have KK2 : Keep h0 h2 [c0_a] := (Keep.refl h0 [c0_a]).wr W2 (Or.inl (List.mem_of_getElem? (i := 0) rfl))
  have N2 := Fr.snoc X2 N1 f3
  have u3 : F_2 Z h2 c0_a .null := Fld.other W2 f4 (Or.inr (slot_ne (a0 := a0) (Or.inr (tw_24 hw)) (Or.inr (tw_22 hw)) (by decide) (t := (.object "java/lang/String")) (t' := (.object "java/lang/String")) (by decide) (by decide)))
  have u4 : E_1 Z h2 c0_a := Exa.wr W2 f2
  obtain ⟨T5, h5, X5, e5, W5, st5⟩ := putF X2 hx hZ hown (host := "") (Or.inl (tw_23 hw)) Via.refl e2 u3 u4 (Or.inr ⟨(tw_24 hw), rfl, hnm⟩) (tw_8 hw) (ty := (.object "java/lang/String")) (by decide) rfl rfl (g := (mkF m 11 #[.val (.ref c0_a), .val .null, .val .null, .val (.ref a_FAILED), .val .null, .val .null, .val (.int 0), .val (.int ((0 : Int32) + p1)), .val (.int ((0 : Int32) + p2)), .val (.int ((0 : Int32) + p3))] [.null, (.ref c0_a)])) rfl rfl (hb hby d2_11)
  have Fw5 : F_2 Z h5 c0_a .null := Fld.same W5 u3
  have KK5 : Keep h0 h5 [c0_a] := KK2.wr W5 (Or.inl (List.mem_of_getElem? (i := 0) rfl))
  have N5 := Fr.snoc X5 N2 f3
  have u6 : F_3 Z h2 c0_a .null := Fld.other W2 f5 (Or.inr (slot_ne (a0 := a0) (Or.inr (tw_26 hw)) (Or.inr (tw_22 hw)) (by decide) (t := (.object "com/example/corestone/corestone/BulkRequest$Status")) (t' := (.object "java/lang/String")) (by decide) (by decide)))
  have u7 : F_3 Z h5 c0_a .null := Fld.other W5 u6 (Or.inr (slot_ne (a0 := a0) (Or.inr (tw_26 hw)) (Or.inr (tw_24 hw)) (by decide) (t := (.object "com/example/corestone/corestone/BulkRequest$Status")) (t' := (.object "java/lang/String")) (by decide) (by decide)))
  have u8 : E_1 Z h5 c0_a := Exa.wr W5 u4
  obtain ⟨T9, h9, X9, e9, W9, st9⟩ := putF X5 hx hZ hown (host := "") (Or.inl (tw_25 hw)) Via.refl e5 u7 u8 (Or.inr ⟨(tw_26 hw), rfl, hnm⟩) (tw_8 hw) (ty := (.object "com/example/corestone/corestone/BulkRequest$Status")) (by decide) rfl rfl (g := (mkF m 16 #[.val (.ref c0_a), .val .null, .val .null, .val (.ref a_FAILED), .val .null, .val .null, .val (.int 0), .val (.int ((0 : Int32) + p1)), .val (.int ((0 : Int32) + p2)), .val (.int ((0 : Int32) + p3))] [(.ref a_FAILED), (.ref c0_a)])) rfl rfl (hb hby d2_16)
  have Fw9 : F_3 Z h9 c0_a (.ref a_FAILED) := Fld.same W9 u7
  have KK9 : Keep h0 h9 [c0_a] := KK5.wr W9 (Or.inl (List.mem_of_getElem? (i := 0) rfl))
  have N9 := Fr.snoc X9 N5 f3
  have u10 : F_4 Z h2 c0_a .null := Fld.other W2 f6 (Or.inr (slot_ne (a0 := a0) (Or.inr (tw_28 hw)) (Or.inr (tw_22 hw)) (by decide) (t := (.object "java/time/Instant")) (t' := (.object "java/lang/String")) (by decide) (by decide)))
  have u11 : F_4 Z h5 c0_a .null := Fld.other W5 u10 (Or.inr (slot_ne (a0 := a0) (Or.inr (tw_28 hw)) (Or.inr (tw_24 hw)) (by decide) (t := (.object "java/time/Instant")) (t' := (.object "java/lang/String")) (by decide) (by decide)))
  have u12 : F_4 Z h9 c0_a .null := Fld.other W9 u11 (Or.inr (slot_ne (a0 := a0) (Or.inr (tw_28 hw)) (Or.inr (tw_26 hw)) (by decide) (t := (.object "java/time/Instant")) (t' := (.object "com/example/corestone/corestone/BulkRequest$Status")) (by decide) (by decide)))
  have u13 : E_1 Z h9 c0_a := Exa.wr W9 u8
  obtain ⟨T14, h14, X14, e14, W14, st14⟩ := putF X9 hx hZ hown (host := "") (Or.inl (tw_27 hw)) Via.refl e9 u12 u13 (Or.inr ⟨(tw_28 hw), rfl, hnm⟩) (tw_8 hw) (ty := (.object "java/time/Instant")) (by decide) rfl rfl (g := (mkF m 22 #[.val (.ref c0_a), .val .null, .val .null, .val (.ref a_FAILED), .val .null, .val .null, .val (.int 0), .val (.int ((0 : Int32) + p1)), .val (.int ((0 : Int32) + p2)), .val (.int ((0 : Int32) + p3))] [.null, (.ref c0_a)])) rfl rfl (hb hby d2_22)
  have Fw14 : F_4 Z h14 c0_a .null := Fld.same W14 u12
  have KK14 : Keep h0 h14 [c0_a] := KK9.wr W14 (Or.inl (List.mem_of_getElem? (i := 0) rfl))
  have N14 := Fr.snoc X14 N9 f3
  have u15 : F_5 Z h2 c0_a .null := Fld.other W2 f7 (Or.inr (slot_ne (a0 := a0) (Or.inr (tw_30 hw)) (Or.inr (tw_22 hw)) (by decide) (t := (.object "java/time/Instant")) (t' := (.object "java/lang/String")) (by decide) (by decide)))
  have u16 : F_5 Z h5 c0_a .null := Fld.other W5 u15 (Or.inr (slot_ne (a0 := a0) (Or.inr (tw_30 hw)) (Or.inr (tw_24 hw)) (by decide) (t := (.object "java/time/Instant")) (t' := (.object "java/lang/String")) (by decide) (by decide)))
  have u17 : F_5 Z h9 c0_a .null := Fld.other W9 u16 (Or.inr (slot_ne (a0 := a0) (Or.inr (tw_30 hw)) (Or.inr (tw_26 hw)) (by decide) (t := (.object "java/time/Instant")) (t' := (.object "com/example/corestone/corestone/BulkRequest$Status")) (by decide) (by decide)))
  have u18 : F_5 Z h14 c0_a .null := Fld.other W14 u17 (Or.inr (slot_ne (a0 := a0) (Or.inr (tw_30 hw)) (Or.inr (tw_28 hw)) (by decide) (t := (.object "java/time/Instant")) (t' := (.object "java/time/Instant")) (by decide) (by decide)))
  have u19 : E_1 Z h14 c0_a := Exa.wr W14 u13
  obtain ⟨T20, h20, X20, e20, W20, st20⟩ := putF X14 hx hZ hown (host := "") (Or.inl (tw_29 hw)) Via.refl e14 u18 u19 (Or.inr ⟨(tw_30 hw), rfl, hnm⟩) (tw_8 hw) (ty := (.object "java/time/Instant")) (by decide) rfl rfl (g := (mkF m 28 #[.val (.ref c0_a), .val .null, .val .null, .val (.ref a_FAILED), .val .null, .val .null, .val (.int 0), .val (.int ((0 : Int32) + p1)), .val (.int ((0 : Int32) + p2)), .val (.int ((0 : Int32) + p3))] [.null, (.ref c0_a)])) rfl rfl (hb hby d2_28)
  have Fw20 : F_5 Z h20 c0_a .null := Fld.same W20 u18
  have KK20 : Keep h0 h20 [c0_a] := KK14.wr W20 (Or.inl (List.mem_of_getElem? (i := 0) rfl))
  have N20 := Fr.snoc X20 N14 f3
  have u21 : F_6 Z h2 c0_a (.int 0) := Fld.other W2 f8 (Or.inr (slot_ne (a0 := a0) (Or.inr (tw_32 hw)) (Or.inr (tw_22 hw)) (by decide) (t := .int) (t' := (.object "java/lang/String")) (by decide) (by decide)))
  have u22 : F_6 Z h5 c0_a (.int 0) := Fld.other W5 u21 (Or.inr (slot_ne (a0 := a0) (Or.inr (tw_32 hw)) (Or.inr (tw_24 hw)) (by decide) (t := .int) (t' := (.object "java/lang/String")) (by decide) (by decide)))
  have u23 : F_6 Z h9 c0_a (.int 0) := Fld.other W9 u22 (Or.inr (slot_ne (a0 := a0) (Or.inr (tw_32 hw)) (Or.inr (tw_26 hw)) (by decide) (t := .int) (t' := (.object "com/example/corestone/corestone/BulkRequest$Status")) (by decide) (by decide)))
  have u24 : F_6 Z h14 c0_a (.int 0) := Fld.other W14 u23 (Or.inr (slot_ne (a0 := a0) (Or.inr (tw_32 hw)) (Or.inr (tw_28 hw)) (by decide) (t := .int) (t' := (.object "java/time/Instant")) (by decide) (by decide)))
  have u25 : F_6 Z h20 c0_a (.int 0) := Fld.other W20 u24 (Or.inr (slot_ne (a0 := a0) (Or.inr (tw_32 hw)) (Or.inr (tw_30 hw)) (by decide) (t := .int) (t' := (.object "java/time/Instant")) (by decide) (by decide)))
  have u26 : E_1 Z h20 c0_a := Exa.wr W20 u19
  obtain ⟨T27, h27, X27, e27, W27, st27⟩ := putF X20 hx hZ hown (host := "") (Or.inl (tw_31 hw)) Via.refl e20 u25 u26 (Or.inr ⟨(tw_32 hw), rfl, hnm⟩) (tw_8 hw) (ty := .int) (by decide) rfl rfl (g := (mkF m 34 #[.val (.ref c0_a), .val .null, .val .null, .val (.ref a_FAILED), .val .null, .val .null, .val (.int 0), .val (.int ((0 : Int32) + p1)), .val (.int ((0 : Int32) + p2)), .val (.int ((0 : Int32) + p3))] [(.int 0), (.ref c0_a)])) rfl rfl (hb hby d2_34)
  have Fw27 : F_6 Z h27 c0_a (.int 0) := Fld.same W27 u25
  have KK27 : Keep h0 h27 [c0_a] := KK20.wr W27 (Or.inl (List.mem_of_getElem? (i := 0) rfl))
  have N27 := Fr.snoc X27 N20 f3
  have u28 : F_7 Z h2 c0_a (.int 0) := Fld.other W2 f9 (Or.inr (slot_ne (a0 := a0) (Or.inr (tw_34 hw)) (Or.inr (tw_22 hw)) (by decide) (t := .int) (t' := (.object "java/lang/String")) (by decide) (by decide)))
  have u29 : F_7 Z h5 c0_a (.int 0) := Fld.other W5 u28 (Or.inr (slot_ne (a0 := a0) (Or.inr (tw_34 hw)) (Or.inr (tw_24 hw)) (by decide) (t := .int) (t' := (.object "java/lang/String")) (by decide) (by decide)))
  have u30 : F_7 Z h9 c0_a (.int 0) := Fld.other W9 u29 (Or.inr (slot_ne (a0 := a0) (Or.inr (tw_34 hw)) (Or.inr (tw_26 hw)) (by decide) (t := .int) (t' := (.object "com/example/corestone/corestone/BulkRequest$Status")) (by decide) (by decide)))
  have u31 : F_7 Z h14 c0_a (.int 0) := Fld.other W14 u30 (Or.inr (slot_ne (a0 := a0) (Or.inr (tw_34 hw)) (Or.inr (tw_28 hw)) (by decide) (t := .int) (t' := (.object "java/time/Instant")) (by decide) (by decide)))
  have u32 : F_7 Z h20 c0_a (.int 0) := Fld.other W20 u31 (Or.inr (slot_ne (a0 := a0) (Or.inr (tw_34 hw)) (Or.inr (tw_30 hw)) (by decide) (t := .int) (t' := (.object "java/time/Instant")) (by decide) (by decide)))
  have u33 : F_7 Z h27 c0_a (.int 0) := Fld.other W27 u32 (Or.inr (slot_ne (a0 := a0) (Or.inr (tw_34 hw)) (Or.inr (tw_32 hw)) (by decide) (t := .int) (t' := .int) (by decide) (by decide)))
  have u34 : E_1 Z h27 c0_a := Exa.wr W27 u26
  obtain ⟨T35, h35, X35, e35, W35, st35⟩ := putF X27 hx hZ hown (host := "") (Or.inl (tw_33 hw)) Via.refl e27 u33 u34 (Or.inr ⟨(tw_34 hw), rfl, hnm⟩) (tw_8 hw) (ty := .int) (by decide) rfl rfl (g := (mkF m 40 #[.val (.ref c0_a), .val .null, .val .null, .val (.ref a_FAILED), .val .null, .val .null, .val (.int 0), .val (.int ((0 : Int32) + p1)), .val (.int ((0 : Int32) + p2)), .val (.int ((0 : Int32) + p3))] [(.int ((0 : Int32) + p1)), (.ref c0_a)])) rfl rfl (hb hby d2_40)
  have Fw35 : F_7 Z h35 c0_a (.int ((0 : Int32) + p1)) := Fld.same W35 u33
  have KK35 : Keep h0 h35 [c0_a] := KK27.wr W35 (Or.inl (List.mem_of_getElem? (i := 0) rfl))
  have N35 := Fr.snoc X35 N27 f3
  have u36 : F_8 Z h2 c0_a (.int 0) := Fld.other W2 f10 (Or.inr (slot_ne (a0 := a0) (Or.inr (tw_36 hw)) (Or.inr (tw_22 hw)) (by decide) (t := .int) (t' := (.object "java/lang/String")) (by decide) (by decide)))
  have u37 : F_8 Z h5 c0_a (.int 0) := Fld.other W5 u36 (Or.inr (slot_ne (a0 := a0) (Or.inr (tw_36 hw)) (Or.inr (tw_24 hw)) (by decide) (t := .int) (t' := (.object "java/lang/String")) (by decide) (by decide)))
  have u38 : F_8 Z h9 c0_a (.int 0) := Fld.other W9 u37 (Or.inr (slot_ne (a0 := a0) (Or.inr (tw_36 hw)) (Or.inr (tw_26 hw)) (by decide) (t := .int) (t' := (.object "com/example/corestone/corestone/BulkRequest$Status")) (by decide) (by decide)))
  have u39 : F_8 Z h14 c0_a (.int 0) := Fld.other W14 u38 (Or.inr (slot_ne (a0 := a0) (Or.inr (tw_36 hw)) (Or.inr (tw_28 hw)) (by decide) (t := .int) (t' := (.object "java/time/Instant")) (by decide) (by decide)))
  have u40 : F_8 Z h20 c0_a (.int 0) := Fld.other W20 u39 (Or.inr (slot_ne (a0 := a0) (Or.inr (tw_36 hw)) (Or.inr (tw_30 hw)) (by decide) (t := .int) (t' := (.object "java/time/Instant")) (by decide) (by decide)))
  have u41 : F_8 Z h27 c0_a (.int 0) := Fld.other W27 u40 (Or.inr (slot_ne (a0 := a0) (Or.inr (tw_36 hw)) (Or.inr (tw_32 hw)) (by decide) (t := .int) (t' := .int) (by decide) (by decide)))
  have u42 : F_8 Z h35 c0_a (.int 0) := Fld.other W35 u41 (Or.inr (slot_ne (a0 := a0) (Or.inr (tw_36 hw)) (Or.inr (tw_34 hw)) (by decide) (t := .int) (t' := .int) (by decide) (by decide)))
  have u43 : E_1 Z h35 c0_a := Exa.wr W35 u34
  obtain ⟨T44, h44, X44, e44, W44, st44⟩ := putF X35 hx hZ hown (host := "") (Or.inl (tw_35 hw)) Via.refl e35 u42 u43 (Or.inr ⟨(tw_36 hw), rfl, hnm⟩) (tw_8 hw) (ty := .int) (by decide) rfl rfl (g := (mkF m 46 #[.val (.ref c0_a), .val .null, .val .null, .val (.ref a_FAILED), .val .null, .val .null, .val (.int 0), .val (.int ((0 : Int32) + p1)), .val (.int ((0 : Int32) + p2)), .val (.int ((0 : Int32) + p3))] [(.int ((0 : Int32) + p2)), (.ref c0_a)])) rfl rfl (hb hby d2_46)
  have Fw44 : F_8 Z h44 c0_a (.int ((0 : Int32) + p2)) := Fld.same W44 u42
  have KK44 : Keep h0 h44 [c0_a] := KK35.wr W44 (Or.inl (List.mem_of_getElem? (i := 0) rfl))
  have N44 := Fr.snoc X44 N35 f3
  have u45 : F_9 Z h2 c0_a (.int 0) := Fld.other W2 f11 (Or.inr (slot_ne (a0 := a0) (Or.inr (tw_38 hw)) (Or.inr (tw_22 hw)) (by decide) (t := .int) (t' := (.object "java/lang/String")) (by decide) (by decide)))
  have u46 : F_9 Z h5 c0_a (.int 0) := Fld.other W5 u45 (Or.inr (slot_ne (a0 := a0) (Or.inr (tw_38 hw)) (Or.inr (tw_24 hw)) (by decide) (t := .int) (t' := (.object "java/lang/String")) (by decide) (by decide)))
  have u47 : F_9 Z h9 c0_a (.int 0) := Fld.other W9 u46 (Or.inr (slot_ne (a0 := a0) (Or.inr (tw_38 hw)) (Or.inr (tw_26 hw)) (by decide) (t := .int) (t' := (.object "com/example/corestone/corestone/BulkRequest$Status")) (by decide) (by decide)))
  have u48 : F_9 Z h14 c0_a (.int 0) := Fld.other W14 u47 (Or.inr (slot_ne (a0 := a0) (Or.inr (tw_38 hw)) (Or.inr (tw_28 hw)) (by decide) (t := .int) (t' := (.object "java/time/Instant")) (by decide) (by decide)))
  have u49 : F_9 Z h20 c0_a (.int 0) := Fld.other W20 u48 (Or.inr (slot_ne (a0 := a0) (Or.inr (tw_38 hw)) (Or.inr (tw_30 hw)) (by decide) (t := .int) (t' := (.object "java/time/Instant")) (by decide) (by decide)))
  have u50 : F_9 Z h27 c0_a (.int 0) := Fld.other W27 u49 (Or.inr (slot_ne (a0 := a0) (Or.inr (tw_38 hw)) (Or.inr (tw_32 hw)) (by decide) (t := .int) (t' := .int) (by decide) (by decide)))
  have u51 : F_9 Z h35 c0_a (.int 0) := Fld.other W35 u50 (Or.inr (slot_ne (a0 := a0) (Or.inr (tw_38 hw)) (Or.inr (tw_34 hw)) (by decide) (t := .int) (t' := .int) (by decide) (by decide)))
  have u52 : F_9 Z h44 c0_a (.int 0) := Fld.other W44 u51 (Or.inr (slot_ne (a0 := a0) (Or.inr (tw_38 hw)) (Or.inr (tw_36 hw)) (by decide) (t := .int) (t' := .int) (by decide) (by decide)))
  have u53 : E_1 Z h44 c0_a := Exa.wr W44 u43
  obtain ⟨T54, h54, X54, e54, W54, st54⟩ := putF X44 hx hZ hown (host := "") (Or.inl (tw_37 hw)) Via.refl e44 u52 u53 (Or.inr ⟨(tw_38 hw), rfl, hnm⟩) (tw_8 hw) (ty := .int) (by decide) rfl rfl (g := (mkF m 52 #[.val (.ref c0_a), .val .null, .val .null, .val (.ref a_FAILED), .val .null, .val .null, .val (.int 0), .val (.int ((0 : Int32) + p1)), .val (.int ((0 : Int32) + p2)), .val (.int ((0 : Int32) + p3))] [(.int ((0 : Int32) + p3)), (.ref c0_a)])) rfl rfl (hb hby d2_52)
  have Fw54 : F_9 Z h54 c0_a (.int ((0 : Int32) + p3)) := Fld.same W54 u52
  have KK54 : Keep h0 h54 [c0_a] := KK44.wr W54 (Or.inl (List.mem_of_getElem? (i := 0) rfl))
  have N54 := Fr.snoc X54 N44 f3
  have u55 : F_1 Z h5 c0_a .null := Fld.other W5 Fw2 (Or.inr (slot_ne (a0 := a0) (Or.inr (tw_22 hw)) (Or.inr (tw_24 hw)) (by decide) (t := (.object "java/lang/String")) (t' := (.object "java/lang/String")) (by decide) (by decide)))
  have u56 : F_1 Z h9 c0_a .null := Fld.other W9 u55 (Or.inr (slot_ne (a0 := a0) (Or.inr (tw_22 hw)) (Or.inr (tw_26 hw)) (by decide) (t := (.object "java/lang/String")) (t' := (.object "com/example/corestone/corestone/BulkRequest$Status")) (by decide) (by decide)))
  have u57 : F_1 Z h14 c0_a .null := Fld.other W14 u56 (Or.inr (slot_ne (a0 := a0) (Or.inr (tw_22 hw)) (Or.inr (tw_28 hw)) (by decide) (t := (.object "java/lang/String")) (t' := (.object "java/time/Instant")) (by decide) (by decide)))
  have u58 : F_1 Z h20 c0_a .null := Fld.other W20 u57 (Or.inr (slot_ne (a0 := a0) (Or.inr (tw_22 hw)) (Or.inr (tw_30 hw)) (by decide) (t := (.object "java/lang/String")) (t' := (.object "java/time/Instant")) (by decide) (by decide)))
  have u59 : F_1 Z h27 c0_a .null := Fld.other W27 u58 (Or.inr (slot_ne (a0 := a0) (Or.inr (tw_22 hw)) (Or.inr (tw_32 hw)) (by decide) (t := (.object "java/lang/String")) (t' := .int) (by decide) (by decide)))
  have u60 : F_1 Z h35 c0_a .null := Fld.other W35 u59 (Or.inr (slot_ne (a0 := a0) (Or.inr (tw_22 hw)) (Or.inr (tw_34 hw)) (by decide) (t := (.object "java/lang/String")) (t' := .int) (by decide) (by decide)))
  have u61 : F_1 Z h44 c0_a .null := Fld.other W44 u60 (Or.inr (slot_ne (a0 := a0) (Or.inr (tw_22 hw)) (Or.inr (tw_36 hw)) (by decide) (t := (.object "java/lang/String")) (t' := .int) (by decide) (by decide)))
  have u62 : F_1 Z h54 c0_a .null := Fld.other W54 u61 (Or.inr (slot_ne (a0 := a0) (Or.inr (tw_22 hw)) (Or.inr (tw_38 hw)) (by decide) (t := (.object "java/lang/String")) (t' := .int) (by decide) (by decide)))
  have u63 : F_2 Z h9 c0_a .null := Fld.other W9 Fw5 (Or.inr (slot_ne (a0 := a0) (Or.inr (tw_24 hw)) (Or.inr (tw_26 hw)) (by decide) (t := (.object "java/lang/String")) (t' := (.object "com/example/corestone/corestone/BulkRequest$Status")) (by decide) (by decide)))
  have u64 : F_2 Z h14 c0_a .null := Fld.other W14 u63 (Or.inr (slot_ne (a0 := a0) (Or.inr (tw_24 hw)) (Or.inr (tw_28 hw)) (by decide) (t := (.object "java/lang/String")) (t' := (.object "java/time/Instant")) (by decide) (by decide)))
  have u65 : F_2 Z h20 c0_a .null := Fld.other W20 u64 (Or.inr (slot_ne (a0 := a0) (Or.inr (tw_24 hw)) (Or.inr (tw_30 hw)) (by decide) (t := (.object "java/lang/String")) (t' := (.object "java/time/Instant")) (by decide) (by decide)))
  have u66 : F_2 Z h27 c0_a .null := Fld.other W27 u65 (Or.inr (slot_ne (a0 := a0) (Or.inr (tw_24 hw)) (Or.inr (tw_32 hw)) (by decide) (t := (.object "java/lang/String")) (t' := .int) (by decide) (by decide)))
  have u67 : F_2 Z h35 c0_a .null := Fld.other W35 u66 (Or.inr (slot_ne (a0 := a0) (Or.inr (tw_24 hw)) (Or.inr (tw_34 hw)) (by decide) (t := (.object "java/lang/String")) (t' := .int) (by decide) (by decide)))
  have u68 : F_2 Z h44 c0_a .null := Fld.other W44 u67 (Or.inr (slot_ne (a0 := a0) (Or.inr (tw_24 hw)) (Or.inr (tw_36 hw)) (by decide) (t := (.object "java/lang/String")) (t' := .int) (by decide) (by decide)))
  have u69 : F_2 Z h54 c0_a .null := Fld.other W54 u68 (Or.inr (slot_ne (a0 := a0) (Or.inr (tw_24 hw)) (Or.inr (tw_38 hw)) (by decide) (t := (.object "java/lang/String")) (t' := .int) (by decide) (by decide)))
  have u70 : F_3 Z h14 c0_a (.ref a_FAILED) := Fld.other W14 Fw9 (Or.inr (slot_ne (a0 := a0) (Or.inr (tw_26 hw)) (Or.inr (tw_28 hw)) (by decide) (t := (.object "com/example/corestone/corestone/BulkRequest$Status")) (t' := (.object "java/time/Instant")) (by decide) (by decide)))
  have u71 : F_3 Z h20 c0_a (.ref a_FAILED) := Fld.other W20 u70 (Or.inr (slot_ne (a0 := a0) (Or.inr (tw_26 hw)) (Or.inr (tw_30 hw)) (by decide) (t := (.object "com/example/corestone/corestone/BulkRequest$Status")) (t' := (.object "java/time/Instant")) (by decide) (by decide)))
  have u72 : F_3 Z h27 c0_a (.ref a_FAILED) := Fld.other W27 u71 (Or.inr (slot_ne (a0 := a0) (Or.inr (tw_26 hw)) (Or.inr (tw_32 hw)) (by decide) (t := (.object "com/example/corestone/corestone/BulkRequest$Status")) (t' := .int) (by decide) (by decide)))
  have u73 : F_3 Z h35 c0_a (.ref a_FAILED) := Fld.other W35 u72 (Or.inr (slot_ne (a0 := a0) (Or.inr (tw_26 hw)) (Or.inr (tw_34 hw)) (by decide) (t := (.object "com/example/corestone/corestone/BulkRequest$Status")) (t' := .int) (by decide) (by decide)))
  have u74 : F_3 Z h44 c0_a (.ref a_FAILED) := Fld.other W44 u73 (Or.inr (slot_ne (a0 := a0) (Or.inr (tw_26 hw)) (Or.inr (tw_36 hw)) (by decide) (t := (.object "com/example/corestone/corestone/BulkRequest$Status")) (t' := .int) (by decide) (by decide)))
  have u75 : F_3 Z h54 c0_a (.ref a_FAILED) := Fld.other W54 u74 (Or.inr (slot_ne (a0 := a0) (Or.inr (tw_26 hw)) (Or.inr (tw_38 hw)) (by decide) (t := (.object "com/example/corestone/corestone/BulkRequest$Status")) (t' := .int) (by decide) (by decide)))
  have u76 : F_4 Z h20 c0_a .null := Fld.other W20 Fw14 (Or.inr (slot_ne (a0 := a0) (Or.inr (tw_28 hw)) (Or.inr (tw_30 hw)) (by decide) (t := (.object "java/time/Instant")) (t' := (.object "java/time/Instant")) (by decide) (by decide)))
  have u77 : F_4 Z h27 c0_a .null := Fld.other W27 u76 (Or.inr (slot_ne (a0 := a0) (Or.inr (tw_28 hw)) (Or.inr (tw_32 hw)) (by decide) (t := (.object "java/time/Instant")) (t' := .int) (by decide) (by decide)))
  have u78 : F_4 Z h35 c0_a .null := Fld.other W35 u77 (Or.inr (slot_ne (a0 := a0) (Or.inr (tw_28 hw)) (Or.inr (tw_34 hw)) (by decide) (t := (.object "java/time/Instant")) (t' := .int) (by decide) (by decide)))
  have u79 : F_4 Z h44 c0_a .null := Fld.other W44 u78 (Or.inr (slot_ne (a0 := a0) (Or.inr (tw_28 hw)) (Or.inr (tw_36 hw)) (by decide) (t := (.object "java/time/Instant")) (t' := .int) (by decide) (by decide)))
  have u80 : F_4 Z h54 c0_a .null := Fld.other W54 u79 (Or.inr (slot_ne (a0 := a0) (Or.inr (tw_28 hw)) (Or.inr (tw_38 hw)) (by decide) (t := (.object "java/time/Instant")) (t' := .int) (by decide) (by decide)))
  have u81 : F_5 Z h27 c0_a .null := Fld.other W27 Fw20 (Or.inr (slot_ne (a0 := a0) (Or.inr (tw_30 hw)) (Or.inr (tw_32 hw)) (by decide) (t := (.object "java/time/Instant")) (t' := .int) (by decide) (by decide)))
  have u82 : F_5 Z h35 c0_a .null := Fld.other W35 u81 (Or.inr (slot_ne (a0 := a0) (Or.inr (tw_30 hw)) (Or.inr (tw_34 hw)) (by decide) (t := (.object "java/time/Instant")) (t' := .int) (by decide) (by decide)))
  have u83 : F_5 Z h44 c0_a .null := Fld.other W44 u82 (Or.inr (slot_ne (a0 := a0) (Or.inr (tw_30 hw)) (Or.inr (tw_36 hw)) (by decide) (t := (.object "java/time/Instant")) (t' := .int) (by decide) (by decide)))
  have u84 : F_5 Z h54 c0_a .null := Fld.other W54 u83 (Or.inr (slot_ne (a0 := a0) (Or.inr (tw_30 hw)) (Or.inr (tw_38 hw)) (by decide) (t := (.object "java/time/Instant")) (t' := .int) (by decide) (by decide)))
  have u85 : F_6 Z h35 c0_a (.int 0) := Fld.other W35 Fw27 (Or.inr (slot_ne (a0 := a0) (Or.inr (tw_32 hw)) (Or.inr (tw_34 hw)) (by decide) (t := .int) (t' := .int) (by decide) (by decide)))
  have u86 : F_6 Z h44 c0_a (.int 0) := Fld.other W44 u85 (Or.inr (slot_ne (a0 := a0) (Or.inr (tw_32 hw)) (Or.inr (tw_36 hw)) (by decide) (t := .int) (t' := .int) (by decide) (by decide)))
  have u87 : F_6 Z h54 c0_a (.int 0) := Fld.other W54 u86 (Or.inr (slot_ne (a0 := a0) (Or.inr (tw_32 hw)) (Or.inr (tw_38 hw)) (by decide) (t := .int) (t' := .int) (by decide) (by decide)))
  have u88 : F_7 Z h44 c0_a (.int ((0 : Int32) + p1)) := Fld.other W44 Fw35 (Or.inr (slot_ne (a0 := a0) (Or.inr (tw_34 hw)) (Or.inr (tw_36 hw)) (by decide) (t := .int) (t' := .int) (by decide) (by decide)))
  have u89 : F_7 Z h54 c0_a (.int ((0 : Int32) + p1)) := Fld.other W54 u88 (Or.inr (slot_ne (a0 := a0) (Or.inr (tw_34 hw)) (Or.inr (tw_38 hw)) (by decide) (t := .int) (t' := .int) (by decide) (by decide)))
  have u90 : F_8 Z h54 c0_a (.int ((0 : Int32) + p2)) := Fld.other W54 Fw44 (Or.inr (slot_ne (a0 := a0) (Or.inr (tw_36 hw)) (Or.inr (tw_38 hw)) (by decide) (t := .int) (t' := .int) (by decide) (by decide)))
  obtain ⟨fs, hr, hrun, hended, hW, hsame⟩ := X54.leave (v := none) (fun _ => rfl)
  refine ⟨_, _, castTop (ef2_RnnRnnIIII m c0_a a_FAILED (0 : Int32) ((0 : Int32) + p1) ((0 : Int32) + p2) ((0 : Int32) + p3)) ?_, hrun, hended, _, _, rfl, ?_, ⟨_, rfl⟩, hW, hsame.mono (by decide) (by decide)⟩
  · show Steps p.tables e below (s₁.setTop (mkF m 0 #[.val (.ref c0_a), .val .null, .val .null, .val (.ref a_FAILED), .val .null, .val .null, .val (.int 0), .val (.int ((0 : Int32) + p1)), .val (.int ((0 : Int32) + p2)), .val (.int ((0 : Int32) + p3))] [])) _
    refine XS.aloadN X0.here hx rfl (hb hby d2_0) rfl rfl ?_
    show Steps p.tables e below (s₁.setTop (mkF m 1 #[.val (.ref c0_a), .val .null, .val .null, .val (.ref a_FAILED), .val .null, .val .null, .val (.int 0), .val (.int ((0 : Int32) + p1)), .val (.int ((0 : Int32) + p2)), .val (.int ((0 : Int32) + p3))] [(.ref c0_a)])) _
    refine st1.trans ?_
    refine XS.aloadN X1.here hx rfl (hb hby d2_4) rfl rfl ?_
    refine XS.aloadN X1.here hx rfl (hb hby d2_5) rfl rfl ?_
    show Steps p.tables e below (T1.setTop (mkF m 6 #[.val (.ref c0_a), .val .null, .val .null, .val (.ref a_FAILED), .val .null, .val .null, .val (.int 0), .val (.int ((0 : Int32) + p1)), .val (.int ((0 : Int32) + p2)), .val (.int ((0 : Int32) + p3))] [.null, (.ref c0_a)])) _
    refine st2 _ ?_
    refine XS.aloadN X2.here hx rfl (hb hby d2_9) rfl rfl ?_
    refine XS.aloadN X2.here hx rfl (hb hby d2_10) rfl rfl ?_
    show Steps p.tables e below (T2.setTop (mkF m 11 #[.val (.ref c0_a), .val .null, .val .null, .val (.ref a_FAILED), .val .null, .val .null, .val (.int 0), .val (.int ((0 : Int32) + p1)), .val (.int ((0 : Int32) + p2)), .val (.int ((0 : Int32) + p3))] [.null, (.ref c0_a)])) _
    refine st5 _ ?_
    refine XS.aloadN X5.here hx rfl (hb hby d2_14) rfl rfl ?_
    refine XS.aloadN X5.here hx rfl (hb hby d2_15) rfl rfl ?_
    show Steps p.tables e below (T5.setTop (mkF m 16 #[.val (.ref c0_a), .val .null, .val .null, .val (.ref a_FAILED), .val .null, .val .null, .val (.int 0), .val (.int ((0 : Int32) + p1)), .val (.int ((0 : Int32) + p2)), .val (.int ((0 : Int32) + p3))] [(.ref a_FAILED), (.ref c0_a)])) _
    refine st9 _ ?_
    refine XS.aloadN X9.here hx rfl (hb hby d2_19) rfl rfl ?_
    refine XS.aload X9.here hx rfl (hb hby d2_20) rfl rfl ?_
    show Steps p.tables e below (T9.setTop (mkF m 22 #[.val (.ref c0_a), .val .null, .val .null, .val (.ref a_FAILED), .val .null, .val .null, .val (.int 0), .val (.int ((0 : Int32) + p1)), .val (.int ((0 : Int32) + p2)), .val (.int ((0 : Int32) + p3))] [.null, (.ref c0_a)])) _
    refine st14 _ ?_
    refine XS.aloadN X14.here hx rfl (hb hby d2_25) rfl rfl ?_
    refine XS.aload X14.here hx rfl (hb hby d2_26) rfl rfl ?_
    show Steps p.tables e below (T14.setTop (mkF m 28 #[.val (.ref c0_a), .val .null, .val .null, .val (.ref a_FAILED), .val .null, .val .null, .val (.int 0), .val (.int ((0 : Int32) + p1)), .val (.int ((0 : Int32) + p2)), .val (.int ((0 : Int32) + p3))] [.null, (.ref c0_a)])) _
    refine st20 _ ?_
    refine XS.aloadN X20.here hx rfl (hb hby d2_31) rfl rfl ?_
    refine XS.iload X20.here hx rfl (hb hby d2_32) rfl ?_
    show Steps p.tables e below (T20.setTop (mkF m 34 #[.val (.ref c0_a), .val .null, .val .null, .val (.ref a_FAILED), .val .null, .val .null, .val (.int 0), .val (.int ((0 : Int32) + p1)), .val (.int ((0 : Int32) + p2)), .val (.int ((0 : Int32) + p3))] [(.int 0), (.ref c0_a)])) _
    refine st27 _ ?_
    refine XS.aloadN X27.here hx rfl (hb hby d2_37) rfl rfl ?_
    refine XS.iload X27.here hx rfl (hb hby d2_38) rfl ?_
    show Steps p.tables e below (T27.setTop (mkF m 40 #[.val (.ref c0_a), .val .null, .val .null, .val (.ref a_FAILED), .val .null, .val .null, .val (.int 0), .val (.int ((0 : Int32) + p1)), .val (.int ((0 : Int32) + p2)), .val (.int ((0 : Int32) + p3))] [(.int ((0 : Int32) + p1)), (.ref c0_a)])) _
    refine st35 _ ?_
    refine XS.aloadN X35.here hx rfl (hb hby d2_43) rfl rfl ?_
    refine XS.iload X35.here hx rfl (hb hby d2_44) rfl ?_
    show Steps p.tables e below (T35.setTop (mkF m 46 #[.val (.ref c0_a), .val .null, .val .null, .val (.ref a_FAILED), .val .null, .val .null, .val (.int 0), .val (.int ((0 : Int32) + p1)), .val (.int ((0 : Int32) + p2)), .val (.int ((0 : Int32) + p3))] [(.int ((0 : Int32) + p2)), (.ref c0_a)])) _
    refine st44 _ ?_
    refine XS.aloadN X44.here hx rfl (hb hby d2_49) rfl rfl ?_
    refine XS.iload X44.here hx rfl (hb hby d2_50) rfl ?_
    show Steps p.tables e below (T44.setTop (mkF m 52 #[.val (.ref c0_a), .val .null, .val .null, .val (.ref a_FAILED), .val .null, .val .null, .val (.int 0), .val (.int ((0 : Int32) + p1)), .val (.int ((0 : Int32) + p2)), .val (.int ((0 : Int32) + p3))] [(.int ((0 : Int32) + p3)), (.ref c0_a)])) _
    refine st54 _ ?_
    show Steps p.tables e below (T54.setTop (mkF m 55 #[.val (.ref c0_a), .val .null, .val .null, .val (.ref a_FAILED), .val .null, .val .null, .val (.int 0), .val (.int ((0 : Int32) + p1)), .val (.int ((0 : Int32) + p2)), .val (.int ((0 : Int32) + p3))] [])) _
    exact X54.returnOut hx Bd.returns (hb hby d2_55) hr
  · show Q2_45 Z c0_a a_FAILED p1 p2 p3 h0 n0 _ T54.heap _
    rw [e54]
    exact ⟨rfl, N54, KK54, u62, u69, u75, u80, u84, u87, u89, u90, Fw54⟩
def Q6_47 (Z : State) (a_FAILED : Addr) (p1 : Int32) (p2 : Int32) (p3 : Int32) (h0 : Heap) (n0 : Nat) (v : Option Value) (h : Heap) (L : List Loc) : Prop := ∃ (b43 : Addr), v = (some (.ref b43)) ∧ Fr n0 L ∧ Keep h0 h [] ∧ h0.size ≤ b43 ∧ E_1 Z h b43 ∧ F_1 Z h b43 .null ∧ F_2 Z h b43 .null ∧ F_3 Z h b43 (.ref a_FAILED) ∧ F_4 Z h b43 .null ∧ F_5 Z h b43 .null ∧ F_6 Z h b43 (.int 0) ∧ F_7 Z h b43 (.int ((0 : Int32) + p1)) ∧ F_8 Z h b43 (.int ((0 : Int32) + p2)) ∧ F_9 Z h b43 (.int ((0 : Int32) + p3))
set_option maxRecDepth 65536 in
set_option maxHeartbeats 40000000 in
theorem rm6_46 (l : Launch) (Z : State) (a0 : Array Value) (hw : ∀ d ∈ tables_1, d.before a0 Z = true) (ws : List Jvm.Cond) (c0_a : Addr) (p1 : Int32) (p2 : Int32) (a_FAILED : Addr) (p3 : Int32) (h0 : Heap) (n0 : Nat) (Z0 : n0 ≤ h0.size) (f1 : F_1 Z h0 c0_a .null) (f2 : F_2 Z h0 c0_a .null) (f3 : F_7 Z h0 c0_a (.int ((0 : Int32) + p1))) (f4 : F_8 Z h0 c0_a (.int ((0 : Int32) + p2))) (f5 : ¬ ((0 : Int32) < (((0 : Int32) + p1) + ((0 : Int32) + p2)))) (f6 : S_3 Z h0 (.ref a_FAILED)) (f7 : F_4 Z h0 c0_a .null) (f8 : F_6 Z h0 c0_a (.int 0)) (f9 : F_9 Z h0 c0_a (.int ((0 : Int32) + p3))) :
    MetFree l M_4 (head1 (Jvm.Cond.code M_4 prog_2_method_5_code 2 (some (.object "com/example/corestone/corestone/BulkRequest")) :: ws) R_3_1_9_46) (fun a U => a = #[(.ref c0_a), .null] ∧ Z.Warmed39 U.vm ∧ U.heap = h0) (fun _ _ _ _ _ => True) (fun _ U o U' => ∃ v L, o = .returned v ∧ Q6_47 Z a_FAILED p1 p2 p3 h0 n0 v U'.heap L ∧ FrameEnd U o U' L R_3_1_9_46.cells R_3_1_9_46.slots) := by
  refine MetFree.of_bodySF (plainFor_of_name pn_com_example_corestone_corestone_BulkRequest) hisR ?_
  intro p e s m args below meth c s₁ Bd hml0 hP hK
  obtain ⟨rfl, hZ, hh⟩ := hP
  have hx := Bd.exec
  have hby := Bd.bytes
  have hml : c.maxLocals = 2 := hml0
  have hown : s.vm.findClass "com/example/corestone/corestone/BulkRequest" = some m.cls := findClass_of_methodNamed Bd.named
  have hnm := (name_of_methodNamed Bd.named Bd.method).1
  have X0 : Stand p l e R_3_1_9_46 s m #[(.ref c0_a), .null] below meth c s₁ [] 0 0 := Stand.of_body Bd
  have e0 : s₁.heap = h0 := by rw [← hh, Bd.state]; rfl
  have N0 := Fr.nil n0
  obtain ⟨T1, h1, X1, e1, E1, A1, D1, -, st1⟩ := newO X0 hx hZ hown (tw_7 hw) (tw_8 hw) (tw_5 hw) e0 (g := (mkF m 0 #[.val (.ref c0_a), .val .null] [])) rfl (hb hby d6_0) (by decide) (by decide)
  obtain ⟨b43, g1⟩ : ∃ z, z = h0.size := ⟨_, rfl⟩
  rw [← g1] at A1 D1 st1
  have sz_b43 : h0.size ≤ b43 := Nat.le_trans (Nat.le_refl _) (Nat.le_of_eq g1.symm)
  have g_b43 : n0 ≤ b43 := Nat.le_trans Z0 sz_b43
  have KK1 : Keep h0 h1 [] := (Keep.refl h0 []).ext E1
  have F1_22 : F_1 Z h1 b43 .null := D1 (Or.inr (tw_22 hw)) (ty := (.object "java/lang/String")) (by decide)
  have F1_24 : F_2 Z h1 b43 .null := D1 (Or.inr (tw_24 hw)) (ty := (.object "java/lang/String")) (by decide)
  have F1_26 : F_3 Z h1 b43 .null := D1 (Or.inr (tw_26 hw)) (ty := (.object "com/example/corestone/corestone/BulkRequest$Status")) (by decide)
  have F1_28 : F_4 Z h1 b43 .null := D1 (Or.inr (tw_28 hw)) (ty := (.object "java/time/Instant")) (by decide)
  have F1_30 : F_5 Z h1 b43 .null := D1 (Or.inr (tw_30 hw)) (ty := (.object "java/time/Instant")) (by decide)
  have F1_32 : F_6 Z h1 b43 (.int 0) := D1 (Or.inr (tw_32 hw)) (ty := .int) (by decide)
  have F1_34 : F_7 Z h1 b43 (.int 0) := D1 (Or.inr (tw_34 hw)) (ty := .int) (by decide)
  have F1_36 : F_8 Z h1 b43 (.int 0) := D1 (Or.inr (tw_36 hw)) (ty := .int) (by decide)
  have F1_38 : F_9 Z h1 b43 (.int 0) := D1 (Or.inr (tw_38 hw)) (ty := .int) (by decide)
  have u2 : F_1 Z h1 c0_a .null := Fld.ext E1 f1
  obtain ⟨T3, X3, e3, st3⟩ := getF X1 hx hZ hown (host := "") (Or.inl (tw_21 hw)) Via.refl e1 u2 (g := (mkF m 5 #[.val (.ref c0_a), .val .null] [(.ref c0_a), (.ref b43), (.ref b43)])) rfl rfl (hb hby d6_5)
  have u4 : F_2 Z h1 c0_a .null := Fld.ext E1 f2
  obtain ⟨T5, X5, e5, st5⟩ := getF X3 hx hZ hown (host := "") (Or.inl (tw_23 hw)) Via.refl e3 u4 (g := (mkF m 9 #[.val (.ref c0_a), .val .null] [(.ref c0_a), .null, (.ref b43), (.ref b43)])) rfl rfl (hb hby d6_9)
  have u6 : F_7 Z h1 c0_a (.int ((0 : Int32) + p1)) := Fld.ext E1 f3
  obtain ⟨T7, X7, e7, st7⟩ := getF X5 hx hZ hown (host := "") (Or.inl (tw_33 hw)) Via.refl e5 u6 (g := (mkF m 13 #[.val (.ref c0_a), .val .null] [(.ref c0_a), .null, .null, (.ref b43), (.ref b43)])) rfl rfl (hb hby d6_13)
  have u8 : F_8 Z h1 c0_a (.int ((0 : Int32) + p2)) := Fld.ext E1 f4
  obtain ⟨T9, X9, e9, st9⟩ := getF X7 hx hZ hown (host := "") (Or.inl (tw_35 hw)) Via.refl e7 u8 (g := (mkF m 17 #[.val (.ref c0_a), .val .null] [(.ref c0_a), (.int ((0 : Int32) + p1)), .null, .null, (.ref b43), (.ref b43)])) rfl rfl (hb hby d6_17)
  have u10 : S_3 Z h1 (.ref a_FAILED) := Sta.ext E1 f6
  obtain ⟨T11, X11, e11, st11⟩ := getS2 X9 hx hZ hown (host := "") (Or.inl (tw_68 hw)) Via.refl e9 u10 (g := (mkF m 30 #[.val (.ref c0_a), .val .null] [.null, .null, (.ref b43), (.ref b43)])) rfl (hb hby d6_30)
  have u12 : F_4 Z h1 c0_a .null := Fld.ext E1 f7
  obtain ⟨T13, X13, e13, st13⟩ := getF X11 hx hZ hown (host := "") (Or.inl (tw_27 hw)) Via.refl e11 u12 (g := (mkF m 34 #[.val (.ref c0_a), .val .null] [(.ref c0_a), (.ref a_FAILED), .null, .null, (.ref b43), (.ref b43)])) rfl rfl (hb hby d6_34)
  have u14 : F_6 Z h1 c0_a (.int 0) := Fld.ext E1 f8
  obtain ⟨T15, X15, e15, st15⟩ := getF X13 hx hZ hown (host := "") (Or.inl (tw_31 hw)) Via.refl e13 u14 (g := (mkF m 39 #[.val (.ref c0_a), .val .null] [(.ref c0_a), .null, .null, (.ref a_FAILED), .null, .null, (.ref b43), (.ref b43)])) rfl rfl (hb hby d6_39)
  obtain ⟨T16, X16, e16, st16⟩ := getF X15 hx hZ hown (host := "") (Or.inl (tw_33 hw)) Via.refl e15 u6 (g := (mkF m 43 #[.val (.ref c0_a), .val .null] [(.ref c0_a), (.int 0), .null, .null, (.ref a_FAILED), .null, .null, (.ref b43), (.ref b43)])) rfl rfl (hb hby d6_43)
  obtain ⟨T17, X17, e17, st17⟩ := getF X16 hx hZ hown (host := "") (Or.inl (tw_35 hw)) Via.refl e16 u8 (g := (mkF m 47 #[.val (.ref c0_a), .val .null] [(.ref c0_a), (.int ((0 : Int32) + p1)), (.int 0), .null, .null, (.ref a_FAILED), .null, .null, (.ref b43), (.ref b43)])) rfl rfl (hb hby d6_47)
  have u18 : F_9 Z h1 c0_a (.int ((0 : Int32) + p3)) := Fld.ext E1 f9
  obtain ⟨T19, X19, e19, st19⟩ := getF X17 hx hZ hown (host := "") (Or.inl (tw_37 hw)) Via.refl e17 u18 (g := (mkF m 51 #[.val (.ref c0_a), .val .null] [(.ref c0_a), (.int ((0 : Int32) + p2)), (.int ((0 : Int32) + p1)), (.int 0), .null, .null, (.ref a_FAILED), .null, .null, (.ref b43), (.ref b43)])) rfl rfl (hb hby d6_51)
  -- pc 54: com/example/corestone/corestone/BulkRequest.<init>
  obtain ⟨_, _, ⟨T20, L20, k20, n20⟩, -, X20, ⟨Lc20, hQ20, l20, y20, z20⟩, st20⟩ := X19.specialBack hx (y := M_1) rfl hown (mvT hZ (tw_10 hw)) (mvT hZ (tw_11 hw)) (mvT hZ (tw_12 hw)) (by decide) (backOf (W := 1) (rm2_44 l Z a0 hw [] b43 a_FAILED p1 p2 p3 h1 n0 (Nat.le_trans Z0 KK1.1) F1_22 A1 g_b43 F1_24 F1_26 F1_28 F1_30 F1_32 F1_34 F1_36 F1_38) hZ (tw_12 hw) (tw_5 hw) (by decide) (by decide)) (g := (mkF m 54 #[.val (.ref c0_a), .val .null] [(.int ((0 : Int32) + p3)), (.int ((0 : Int32) + p2)), (.int ((0 : Int32) + p1)), (.int 0), .null, .null, (.ref a_FAILED), .null, .null, (.ref b43), (.ref b43)])) rfl (by rw [hml]; rfl) (Steps.refl _) (a := b43) (argsL := [.null, .null, (.ref a_FAILED), .null, .null, (.int 0), (.int ((0 : Int32) + p1)), (.int ((0 : Int32) + p2)), (.int ((0 : Int32) + p3))]) (rest := [(.ref b43)]) (lenOf pd_1 rfl) rfl (by show 2 * 0 + _ ≤ _; exact Nat.le_of_eq rfl) (hb hby d6_54) (fun _ _ => ⟨rfl, e19, (by decide : 1 + 0 ≤ _), (by decide : 9 + 0 ≤ _)⟩)
  dsimp only [Pt.U, Pt.locs, Pt.cells, Pt.slots] at X20 l20 y20 z20 st20 hQ20
  subst l20 y20 z20
  obtain ⟨rfl, Nq20, K20, o20_0, o20_1, o20_2, o20_3, o20_4, o20_5, o20_6, o20_7, o20_8⟩ := hQ20
  have N20 := Fr.app N0 Nq20
  have KK20 : Keep h0 T20.heap [] := KK1.trans K20 (fun x hx => (List.mem_cons.mp hx).elim (fun q => q ▸ (Or.inr sz_b43)) (fun hx => nomatch hx))
  have u21 : E_1 Z T20.heap b43 := Exa.keep A1 K20
  obtain ⟨fs, hr, hrun, hended, hW, hsame⟩ := X20.leave (v := (some (.ref b43))) (fun h => by rw [Bd.returns] at h; cases h)
  refine ⟨_, _, castTop (ef6_Rn m c0_a) ?_, hrun, hended, _, _, rfl, ?_, ⟨_, rfl⟩, hW, hsame.mono (by decide) (by decide)⟩
  · show Steps p.tables e below (s₁.setTop (mkF m 0 #[.val (.ref c0_a), .val .null] [])) _
    refine st1 _ ?_
    refine XS.dup X1.here hx rfl (hb hby d6_3) rfl rfl ?_
    refine XS.aloadN X1.here hx rfl (hb hby d6_4) rfl rfl ?_
    show Steps p.tables e below (T1.setTop (mkF m 5 #[.val (.ref c0_a), .val .null] [(.ref c0_a), (.ref b43), (.ref b43)])) _
    refine st3 _ ?_
    refine XS.aloadN X3.here hx rfl (hb hby d6_8) rfl rfl ?_
    show Steps p.tables e below (T3.setTop (mkF m 9 #[.val (.ref c0_a), .val .null] [(.ref c0_a), .null, (.ref b43), (.ref b43)])) _
    refine st5 _ ?_
    refine XS.aloadN X5.here hx rfl (hb hby d6_12) rfl rfl ?_
    show Steps p.tables e below (T5.setTop (mkF m 13 #[.val (.ref c0_a), .val .null] [(.ref c0_a), .null, .null, (.ref b43), (.ref b43)])) _
    refine st7 _ ?_
    refine XS.aloadN X7.here hx rfl (hb hby d6_16) rfl rfl ?_
    show Steps p.tables e below (T7.setTop (mkF m 17 #[.val (.ref c0_a), .val .null] [(.ref c0_a), (.int ((0 : Int32) + p1)), .null, .null, (.ref b43), (.ref b43)])) _
    refine st9 _ ?_
    show Steps p.tables e below (T9.setTop (mkF m 20 #[.val (.ref c0_a), .val .null] [(.int ((0 : Int32) + p2)), (.int ((0 : Int32) + p1)), .null, .null, (.ref b43), (.ref b43)])) _
    refine XS.iadd X9.here hx rfl (hb hby d6_20) rfl ?_
    refine XS.ifYes X9.here hx rfl (pc0 := 21) (pc' := 30) rfl (hb hby d6_21) rfl ((if0 _ _).trans (flt (f5 : ¬ ((0 : Int32) < (((0 : Int32) + p1) + ((0 : Int32) + p2))))).2.2.2) (by decide) (by decide) ?_
    show Steps p.tables e below (T9.setTop (mkF m 30 #[.val (.ref c0_a), .val .null] [.null, .null, (.ref b43), (.ref b43)])) _
    refine st11 _ ?_
    refine XS.aloadN X11.here hx rfl (hb hby d6_33) rfl rfl ?_
    show Steps p.tables e below (T11.setTop (mkF m 34 #[.val (.ref c0_a), .val .null] [(.ref c0_a), (.ref a_FAILED), .null, .null, (.ref b43), (.ref b43)])) _
    refine st13 _ ?_
    refine XS.aloadN X13.here hx rfl (hb hby d6_37) rfl rfl ?_
    refine XS.aloadN X13.here hx rfl (hb hby d6_38) rfl rfl ?_
    show Steps p.tables e below (T13.setTop (mkF m 39 #[.val (.ref c0_a), .val .null] [(.ref c0_a), .null, .null, (.ref a_FAILED), .null, .null, (.ref b43), (.ref b43)])) _
    refine st15 _ ?_
    refine XS.aloadN X15.here hx rfl (hb hby d6_42) rfl rfl ?_
    show Steps p.tables e below (T15.setTop (mkF m 43 #[.val (.ref c0_a), .val .null] [(.ref c0_a), (.int 0), .null, .null, (.ref a_FAILED), .null, .null, (.ref b43), (.ref b43)])) _
    refine st16 _ ?_
    refine XS.aloadN X16.here hx rfl (hb hby d6_46) rfl rfl ?_
    show Steps p.tables e below (T16.setTop (mkF m 47 #[.val (.ref c0_a), .val .null] [(.ref c0_a), (.int ((0 : Int32) + p1)), (.int 0), .null, .null, (.ref a_FAILED), .null, .null, (.ref b43), (.ref b43)])) _
    refine st17 _ ?_
    refine XS.aloadN X17.here hx rfl (hb hby d6_50) rfl rfl ?_
    show Steps p.tables e below (T17.setTop (mkF m 51 #[.val (.ref c0_a), .val .null] [(.ref c0_a), (.int ((0 : Int32) + p2)), (.int ((0 : Int32) + p1)), (.int 0), .null, .null, (.ref a_FAILED), .null, .null, (.ref b43), (.ref b43)])) _
    refine st19 _ ?_
    show Steps p.tables e below (T19.setTop (mkF m 54 #[.val (.ref c0_a), .val .null] [(.int ((0 : Int32) + p3)), (.int ((0 : Int32) + p2)), (.int ((0 : Int32) + p1)), (.int 0), .null, .null, (.ref a_FAILED), .null, .null, (.ref b43), (.ref b43)])) _
    refine st20.trans ?_
    show Steps p.tables e below (T20.setTop (mkF m 57 #[.val (.ref c0_a), .val .null] [(.ref b43)])) _
    jvm_step X20.here [X20.here.top, hx, (hb hby d6_57), X20.method', Bd.returns, Value.isRef, FieldType.isReference]
    first | (intro acts; rw [hr _ acts rfl rfl rfl]) | rw [hr _ _ rfl rfl rfl]
    exact Steps.refl _
  · show Q6_47 Z a_FAILED p1 p2 p3 h0 n0 _ T20.heap _
    exact ⟨b43, rfl, N20, KK20, sz_b43, u21, o20_0, o20_1, o20_2, o20_3, o20_4, o20_5, o20_6, o20_7, o20_8⟩
set_option maxRecDepth 65536 in
set_option maxHeartbeats 40000000 in
theorem rm8_49 (l : Launch) (Z : State) (a0 : Array Value) (hw : ∀ d ∈ tables_1, d.before a0 Z = true) (ws : List Jvm.Cond) (c0_a : Addr) (a_FAILED : Addr) (h0 : Heap) (n0 : Nat) (Z0 : n0 ≤ h0.size) (f1 : F_3 Z h0 c0_a (.ref a_FAILED)) :
    MetFree l M_6 (head1 (Jvm.Cond.code M_6 prog_2_method_11_code 1 (some (.object "com/example/corestone/corestone/BulkRequest$Status")) :: ws) R_0_0_0_0) (fun a U => a = #[(.ref c0_a)] ∧ Z.Warmed39 U.vm ∧ U.heap = h0) (fun _ _ _ _ _ => True) (fun _ U o U' => ∃ v L, o = .returned v ∧ QP (some (.ref a_FAILED)) h0 n0 v U'.heap L ∧ FrameEnd U o U' L R_0_0_0_0.cells R_0_0_0_0.slots) := by
  refine MetFree.of_bodySF (plainFor_of_name pn_com_example_corestone_corestone_BulkRequest) hisR ?_
  intro p e s m args below meth c s₁ Bd hml0 hP hK
  obtain ⟨rfl, hZ, hh⟩ := hP
  have hx := Bd.exec
  have hby := Bd.bytes
  have hml : c.maxLocals = 1 := hml0
  have hown : s.vm.findClass "com/example/corestone/corestone/BulkRequest" = some m.cls := findClass_of_methodNamed Bd.named
  have hnm := (name_of_methodNamed Bd.named Bd.method).1
  have X0 : Stand p l e R_0_0_0_0 s m #[(.ref c0_a)] below meth c s₁ [] 0 0 := Stand.of_body Bd
  have e0 : s₁.heap = h0 := by rw [← hh, Bd.state]; rfl
  have N0 := Fr.nil n0
  obtain ⟨T1, X1, e1, st1⟩ := getF X0 hx hZ hown (host := "") (Or.inl (tw_25 hw)) Via.refl e0 f1 (g := (mkF m 1 #[.val (.ref c0_a)] [(.ref c0_a)])) rfl rfl (hb hby d8_1)
  obtain ⟨fs, hr, hrun, hended, hW, hsame⟩ := X1.leave (v := (some (.ref a_FAILED))) (fun h => by rw [Bd.returns] at h; cases h)
  refine ⟨_, _, castTop (ef8_R m c0_a) ?_, hrun, hended, _, _, rfl, ?_, ⟨_, rfl⟩, hW, hsame.mono (by decide) (by decide)⟩
  · show Steps p.tables e below (s₁.setTop (mkF m 0 #[.val (.ref c0_a)] [])) _
    refine XS.aloadN X0.here hx rfl (hb hby d8_0) rfl rfl ?_
    show Steps p.tables e below (s₁.setTop (mkF m 1 #[.val (.ref c0_a)] [(.ref c0_a)])) _
    refine st1 _ ?_
    show Steps p.tables e below (T1.setTop (mkF m 4 #[.val (.ref c0_a)] [(.ref a_FAILED)])) _
    jvm_step X1.here [X1.here.top, hx, (hb hby d8_4), X1.method', Bd.returns, Value.isRef, FieldType.isReference]
    first | (intro acts; rw [hr _ acts rfl rfl rfl]) | rw [hr _ _ rfl rfl rfl]
    exact Steps.refl _
  · show QP (some (.ref a_FAILED)) h0 n0 _ T1.heap _
    rw [e1]
    exact ⟨rfl, N0, rfl⟩
set_option maxRecDepth 65536 in
set_option maxHeartbeats 40000000 in
theorem rm7_50 (l : Launch) (Z : State) (a0 : Array Value) (hw : ∀ d ∈ tables_1, d.before a0 Z = true) (ws : List Jvm.Cond) (a_FAILED : Addr) (a_COMPLETED : Addr) (h0 : Heap) (n0 : Nat) (Z0 : n0 ≤ h0.size) (f1 : S_2 Z h0 (.ref a_COMPLETED)) (f2 : a_COMPLETED ≠ a_FAILED) (f3 : S_3 Z h0 (.ref a_FAILED)) :
    MetFree l M_5 (head1 (Jvm.Cond.code M_5 prog_5_method_4_code 1 (some .boolean) :: ws) R_0_0_0_0) (fun a U => a = #[(.ref a_FAILED)] ∧ Z.Warmed39 U.vm ∧ U.heap = h0) (fun _ _ _ _ _ => True) (fun _ U o U' => ∃ v L, o = .returned v ∧ QP (some (.int 1)) h0 n0 v U'.heap L ∧ FrameEnd U o U' L R_0_0_0_0.cells R_0_0_0_0.slots) := by
  refine MetFree.of_bodySF (plainFor_of_name pn_com_example_corestone_corestone_BulkRequest_Status) hisR ?_
  intro p e s m args below meth c s₁ Bd hml0 hP hK
  obtain ⟨rfl, hZ, hh⟩ := hP
  have hx := Bd.exec
  have hby := Bd.bytes
  have hml : c.maxLocals = 1 := hml0
  have hown : s.vm.findClass "com/example/corestone/corestone/BulkRequest$Status" = some m.cls := findClass_of_methodNamed Bd.named
  have hnm := (name_of_methodNamed Bd.named Bd.method).1
  have X0 : Stand p l e R_0_0_0_0 s m #[(.ref a_FAILED)] below meth c s₁ [] 0 0 := Stand.of_body Bd
  have e0 : s₁.heap = h0 := by rw [← hh, Bd.state]; rfl
  have N0 := Fr.nil n0
  obtain ⟨T1, X1, e1, st1⟩ := getS2 X0 hx hZ hown (host := "") (Or.inl (tw_58 hw)) Via.refl e0 f1 (g := (mkF m 1 #[.val (.ref a_FAILED)] [(.ref a_FAILED)])) rfl (hb hby d7_1)
  obtain ⟨T2, X2, e2, st2⟩ := getS2 X1 hx hZ hown (host := "") (Or.inl (tw_59 hw)) Via.refl e1 f3 (g := (mkF m 8 #[.val (.ref a_FAILED)] [(.ref a_FAILED)])) rfl (hb hby d7_8)
  obtain ⟨fs, hr, hrun, hended, hW, hsame⟩ := X2.leave (v := (some (.int 1))) (fun h => by rw [Bd.returns] at h; cases h)
  refine ⟨_, _, castTop (ef7_R m a_FAILED) ?_, hrun, hended, _, _, rfl, ?_, ⟨_, rfl⟩, hW, hsame.mono (by decide) (by decide)⟩
  · show Steps p.tables e below (s₁.setTop (mkF m 0 #[.val (.ref a_FAILED)] [])) _
    refine XS.aloadN X0.here hx rfl (hb hby d7_0) rfl rfl ?_
    show Steps p.tables e below (s₁.setTop (mkF m 1 #[.val (.ref a_FAILED)] [(.ref a_FAILED)])) _
    refine st1 _ ?_
    show Steps p.tables e below (T1.setTop (mkF m 4 #[.val (.ref a_FAILED)] [(.ref a_COMPLETED), (.ref a_FAILED)])) _
    refine Jvm.RoadKit.acmp (g := (mkF m 4 #[.val (.ref a_FAILED)] [(.ref a_COMPLETED), (.ref a_FAILED)])) X1 hx rfl rfl rfl (pc0 := 4) (pc' := 7) (same := false) rfl (hb hby d7_4) rfl (decide_eq_false fun q => (Ne.symm f2) (Value.ref.inj q)) (by decide) (by decide) ?_
    refine XS.aloadN X1.here hx rfl (hb hby d7_7) rfl rfl ?_
    show Steps p.tables e below (T1.setTop (mkF m 8 #[.val (.ref a_FAILED)] [(.ref a_FAILED)])) _
    refine st2 _ ?_
    show Steps p.tables e below (T2.setTop (mkF m 11 #[.val (.ref a_FAILED)] [(.ref a_FAILED), (.ref a_FAILED)])) _
    refine Jvm.RoadKit.acmp (g := (mkF m 11 #[.val (.ref a_FAILED)] [(.ref a_FAILED), (.ref a_FAILED)])) X2 hx rfl rfl rfl (pc0 := 11) (pc' := 14) (same := true) rfl (hb hby d7_11) rfl (decide_eq_true rfl) (by decide) (by decide) ?_
    refine XS.iconst X2.here hx rfl (hb hby d7_14) ?_
    refine XS.goto X2.here hx rfl (pc0 := 15) (pc' := 19) rfl (hb hby d7_15) (by decide) (by decide) ?_
    show Steps p.tables e below (T2.setTop (mkF m 19 #[.val (.ref a_FAILED)] [(.int 1)])) _
    exact retN X2 hx (t := .boolean) Bd.returns (by simp) (hb hby d7_19) hr
  · show QP (some (.int 1)) h0 n0 _ T2.heap _
    rw [e2]
    exact ⟨rfl, N0, rfl⟩
set_option maxRecDepth 65536 in
set_option maxHeartbeats 40000000 in
theorem rm0_51 (l : Launch) (Z : State) (a0 : Array Value) (hw : ∀ d ∈ tables_1, d.before a0 Z = true) (ws : List Jvm.Cond) (p0 : Int32) (p1 : Int32) (p2 : Int32) (p3 : Int32) (a_QUEUED : Addr) (a_RUNNING : Addr) (a_FAILED : Addr) (a_COMPLETED : Addr) (h0 : Heap) (n0 : Nat) (Z0 : n0 ≤ h0.size) (f1 : (p0 &&& (3 : Int32)) = (0 : Int32)) (f2 : S_0 Z h0 (.ref a_QUEUED)) (f3 : S_1 Z h0 (.ref a_RUNNING)) (f4 : ¬ ((0 : Int32) < (((0 : Int32) + p1) + ((0 : Int32) + p2)))) (f5 : S_3 Z h0 (.ref a_FAILED)) (f6 : S_2 Z h0 (.ref a_COMPLETED)) (f7 : a_QUEUED ≠ a_COMPLETED) (f8 : a_QUEUED ≠ a_FAILED) (f9 : E_0 Z h0 a_QUEUED) (f10 : a_COMPLETED ≠ a_RUNNING) (f11 : a_FAILED ≠ a_RUNNING) (f12 : E_0 Z h0 a_RUNNING) (f13 : a_COMPLETED ≠ a_FAILED) (f14 : E_0 Z h0 a_FAILED) :
    MetFree l x (head1 (Jvm.Cond.code x code maxLocals ret :: ws) room_1) (fun a U => a = #[(.int p0), (.int p1), (.int p2), (.int p3)] ∧ Z.Warmed39 U.vm ∧ U.heap = h0) (fun _ _ _ _ _ => True) (fun _ U o U' => ∃ v L, o = .returned v ∧ QT n0 v U'.heap L ∧ FrameEnd U o U' L room_1.cells room_1.slots) := by
  refine MetFree.of_bodySF (plainFor_of_name pn_com_example_corestone_corestone_StatusEndedPinLaw) hisR ?_
  intro p e s m args below meth c s₁ Bd hml0 hP hK
  obtain ⟨rfl, hZ, hh⟩ := hP
  have hx := Bd.exec
  have hby := Bd.bytes
  have hml : c.maxLocals = 10 := hml0
  have hown : s.vm.findClass "com/example/corestone/corestone/StatusEndedPinLaw" = some m.cls := findClass_of_methodNamed Bd.named
  have hnm := (name_of_methodNamed Bd.named Bd.method).1
  have X0 : Stand p l e room_1 s m #[(.int p0), (.int p1), (.int p2), (.int p3)] below meth c s₁ [] 0 0 := Stand.of_body Bd
  have e0 : s₁.heap = h0 := by rw [← hh, Bd.state]; rfl
  have N0 := Fr.nil n0
  obtain ⟨T1, X1, e1, st1⟩ := getS2 X0 hx hZ hown (host := "") (Or.inl (tw_0 hw)) Via.refl e0 f2 (g := (mkF m 10 #[.val (.int p0), .val (.int p1), .val (.int p2), .val (.int p3), .val (.int 0), .unset, .unset, .unset, .unset, .unset] [])) rfl (hb hby at_10)
  -- pc 67: com/example/corestone/corestone/BulkRequest.queued
  obtain ⟨_, _, ⟨T2, L2, k2, n2⟩, -, X2, ⟨Lc2, hQ2, l2, y2, z2⟩, st2⟩ := Jvm.LawKit.callS X1 hx (y := M_2) hown (mvT hZ (tw_3 hw)) (mvT hZ (tw_4 hw)) (mvT hZ (tw_5 hw)) (mvT hZ (tw_6 hw)) (by decide) (backOf (W := 0) (rm1_19 l Z a0 hw [] a_QUEUED h0 n0 Z0 f2) hZ (tw_6 hw) (tw_5 hw) (by decide) (by decide)) (g := (mkF m 67 #[.val (.int p0), .val (.int p1), .val (.int p2), .val (.int p3), .val (.int 0), .val (.ref a_QUEUED), .val (.int 0), .unset, .unset, .unset] [.null, (.int 0), .null, .null])) rfl (by rw [hml]; rfl) (argsL := [.null, .null, (.int 0), .null]) (rest := []) (lenOf pd_2 rfl) rfl (by show 2 * 0 + _ ≤ _; exact Nat.le_of_eq rfl) (hb hby at_67) (fun _ _ => ⟨rfl, e1, (by decide : 0 + 1 ≤ _), (by decide : 0 + 9 ≤ _)⟩)
  dsimp only [Pt.U, Pt.locs, Pt.cells, Pt.slots] at X2 l2 y2 z2 st2 hQ2
  subst l2 y2 z2
  obtain ⟨b41, rfl, Nq2, K2, le_b41, o2_0, o2_1, o2_2, o2_3, o2_4, o2_5, o2_6, o2_7, o2_8, o2_9⟩ := hQ2
  have N2 := Fr.app N0 Nq2
  have sz_b41 : h0.size ≤ b41 := Nat.le_trans (Nat.le_refl _) le_b41
  have g_b41 : n0 ≤ b41 := Nat.le_trans Z0 sz_b41
  have KK2 : Keep h0 T2.heap [] := (Keep.refl h0 []).trans K2 (fun x hx => nomatch hx)
  -- pc 78: com/example/corestone/corestone/BulkRequest.running
  have u3 : S_1 Z T2.heap (.ref a_RUNNING) := own_sta_keep f3 K2 (fun _ q => nomatch q)
  obtain ⟨cq4, kq4, q4a, q4b, q4c⟩ := isOf hZ rfl o2_0
  obtain ⟨_, _, ⟨T4, L4, k4, n4⟩, -, X4, ⟨Lc4, hQ4, l4, y4, z4⟩, st4⟩ := X2.virtualBack hx (y := M_3) (z := M_3) hown (mvT hZ (tw_39 hw)) (mvT hZ (tw_40 hw)) (notFace_of_selects (args := #[]) (mvT hZ (tw_42 hw))) (mvT hZ (tw_42 hw)) (mvT hZ (tw_41 hw)) (by decide) (backOf (W := 0) (rm5_25 l Z a0 hw [] b41 p1 p2 p3 a_RUNNING T2.heap n0 (Nat.le_trans Z0 KK2.1) o2_1 o2_2 u3 o2_4 o2_6 o2_7 o2_8 o2_9) hZ (tw_43 hw) (tw_5 hw) (by decide) (by decide)) q4a q4c (g := (mkF m 78 #[.val (.int p0), .val (.int p1), .val (.int p2), .val (.int p3), .val (.int 0), .val (.ref a_QUEUED), .val (.int 0), .val (.ref b41), .unset, .unset] [.null, (.int p3), (.int p2), (.int p1), (.ref b41)])) rfl (by rw [hml]; rfl) (Steps.refl _) (argsL := [(.int p1), (.int p2), (.int p3), .null]) (rest := []) (lenOf pd_3 rfl) rfl (by show 2 * 0 + _ ≤ _; exact Nat.le_of_eq rfl) (hb hby at_78) (fun _ _ => ⟨rfl, rfl, (by decide : 1 + 1 ≤ _), (by decide : 9 + 9 ≤ _)⟩)
  dsimp only [Pt.U, Pt.locs, Pt.cells, Pt.slots] at X4 l4 y4 z4 st4 hQ4
  subst l4 y4 z4
  obtain ⟨b42, rfl, Nq4, K4, le_b42, o4_0, o4_1, o4_2, o4_3, o4_4, o4_5, o4_6, o4_7, o4_8, o4_9⟩ := hQ4
  have N4 := Fr.app N2 Nq4
  have sz_b42 : h0.size ≤ b42 := Nat.le_trans KK2.1 le_b42
  have g_b42 : n0 ≤ b42 := Nat.le_trans Z0 sz_b42
  have KK4 : Keep h0 T4.heap [] := KK2.trans K4 (fun x hx => nomatch hx)
  -- pc 86: com/example/corestone/corestone/BulkRequest.ended
  have u5 : S_3 Z T2.heap (.ref a_FAILED) := own_sta_keep f5 K2 (fun _ q => nomatch q)
  have u6 : S_3 Z T4.heap (.ref a_FAILED) := own_sta_keep u5 K4 (fun _ q => nomatch q)
  obtain ⟨cq7, kq7, q7a, q7b, q7c⟩ := isOf hZ rfl o4_0
  obtain ⟨_, _, ⟨T7, L7, k7, n7⟩, -, X7, ⟨Lc7, hQ7, l7, y7, z7⟩, st7⟩ := X4.virtualBack hx (y := M_4) (z := M_4) hown (mvT hZ (tw_46 hw)) (mvT hZ (tw_47 hw)) (notFace_of_selects (args := #[]) (mvT hZ (tw_49 hw))) (mvT hZ (tw_49 hw)) (mvT hZ (tw_48 hw)) (by decide) (backOf (W := 0) (rm6_46 l Z a0 hw [] b42 p1 p2 a_FAILED p3 T4.heap n0 (Nat.le_trans Z0 KK4.1) o4_1 o4_2 o4_7 o4_8 f4 u6 o4_4 o4_6 o4_9) hZ (tw_50 hw) (tw_5 hw) (by decide) (by decide)) q7a q7c (g := (mkF m 86 #[.val (.int p0), .val (.int p1), .val (.int p2), .val (.int p3), .val (.int 0), .val (.ref a_QUEUED), .val (.int 0), .val (.ref b41), .val (.ref b42), .unset] [.null, (.ref b42)])) rfl (by rw [hml]; rfl) (Steps.refl _) (argsL := [.null]) (rest := []) (lenOf pd_4 rfl) rfl (by show 2 * 0 + _ ≤ _; exact Nat.le_of_eq rfl) (hb hby at_86) (fun _ _ => ⟨rfl, rfl, (by decide : 2 + 1 ≤ _), (by decide : 18 + 9 ≤ _)⟩)
  dsimp only [Pt.U, Pt.locs, Pt.cells, Pt.slots] at X7 l7 y7 z7 st7 hQ7
  subst l7 y7 z7
  obtain ⟨b48, rfl, Nq7, K7, le_b48, o7_0, o7_1, o7_2, o7_3, o7_4, o7_5, o7_6, o7_7, o7_8, o7_9⟩ := hQ7
  have N7 := Fr.app N4 Nq7
  have sz_b48 : h0.size ≤ b48 := Nat.le_trans KK4.1 le_b48
  have g_b48 : n0 ≤ b48 := Nat.le_trans Z0 sz_b48
  have KK7 : Keep h0 T7.heap [] := KK4.trans K7 (fun x hx => nomatch hx)
  -- pc 93: com/example/corestone/corestone/BulkRequest$Status.ended
  have u8 : S_2 Z T2.heap (.ref a_COMPLETED) := own_sta_keep f6 K2 (fun _ q => nomatch q)
  have u9 : S_2 Z T4.heap (.ref a_COMPLETED) := own_sta_keep u8 K4 (fun _ q => nomatch q)
  have u10 : S_2 Z T7.heap (.ref a_COMPLETED) := own_sta_keep u9 K7 (fun _ q => nomatch q)
  have u11 : S_3 Z T7.heap (.ref a_FAILED) := own_sta_keep u6 K7 (fun _ q => nomatch q)
  have u13 : E_0 Z T2.heap a_QUEUED := Exa.keep f9 K2
  have u14 : E_0 Z T4.heap a_QUEUED := Exa.keep u13 K4
  have u15 : E_0 Z T7.heap a_QUEUED := Exa.keep u14 K7
  obtain ⟨cq12, kq12, q12a, q12b, q12c⟩ := isOf hZ rfl u15
  obtain ⟨_, _, ⟨T12, L12, k12, n12⟩, -, X12, ⟨Lc12, hQ12, l12, y12, z12⟩, st12⟩ := X7.virtualBack hx (y := M_5) (z := M_5) hown (mvT hZ (tw_53 hw)) (mvT hZ (tw_54 hw)) (notFace_of_selects (args := #[]) (mvT hZ (tw_56 hw))) (mvT hZ (tw_56 hw)) (mvT hZ (tw_55 hw)) (by decide) (backOf (W := 0) (rm7_34 l Z a0 hw [] a_QUEUED a_COMPLETED a_FAILED T7.heap n0 (Nat.le_trans Z0 KK7.1) u10 f7 u11 f8) hZ (tw_57 hw) (tw_1 hw) (by decide) (by decide)) q12a q12c (g := (mkF m 93 #[.val (.int p0), .val (.int p1), .val (.int p2), .val (.int p3), .val (.int 0), .val (.ref a_QUEUED), .val (.int 0), .val (.ref b41), .val (.ref b42), .val (.ref b48)] [(.ref a_QUEUED)])) rfl (by rw [hml]; rfl) (Steps.refl _) (argsL := []) (rest := []) (lenOf pd_5 rfl) rfl (by show 2 * 0 + _ ≤ _; exact Nat.le_of_eq rfl) (hb hby at_93) (fun _ _ => ⟨rfl, rfl, (by decide : 3 + 0 ≤ _), (by decide : 27 + 0 ≤ _)⟩)
  dsimp only [Pt.U, Pt.locs, Pt.cells, Pt.slots] at X12 l12 y12 z12 st12 hQ12
  subst l12 y12 z12
  obtain ⟨rfl, Nq12, e12⟩ := hQ12
  have N12 := Fr.app N7 Nq12
  -- pc 103: com/example/corestone/corestone/BulkRequest.status
  have u16 : F_3 Z T4.heap b41 (.ref a_QUEUED) := Fld.keep o2_3 K4 List.not_mem_nil
  have u17 : F_3 Z T7.heap b41 (.ref a_QUEUED) := Fld.keep u16 K7 List.not_mem_nil
  have u19 : E_1 Z T4.heap b41 := Exa.keep o2_0 K4
  have u20 : E_1 Z T7.heap b41 := Exa.keep u19 K7
  obtain ⟨cq18, kq18, q18a, q18b, q18c⟩ := isOf hZ e12 u20
  obtain ⟨_, _, ⟨T18, L18, k18, n18⟩, -, X18, ⟨Lc18, hQ18, l18, y18, z18⟩, st18⟩ := X12.virtualBack hx (y := M_6) (z := M_6) hown (mvT hZ (tw_61 hw)) (mvT hZ (tw_62 hw)) (notFace_of_selects (args := #[]) (mvT hZ (tw_64 hw))) (mvT hZ (tw_64 hw)) (mvT hZ (tw_63 hw)) (by decide) (backOf (W := 0) (rm8_35 l Z a0 hw [] b41 a_QUEUED T7.heap n0 (Nat.le_trans Z0 KK7.1) u17) hZ (tw_65 hw) (tw_5 hw) (by decide) (by decide)) q18a q18c (g := (mkF m 103 #[.val (.int p0), .val (.int p1), .val (.int p2), .val (.int p3), .val (.int 0), .val (.ref a_QUEUED), .val (.int 0), .val (.ref b41), .val (.ref b42), .val (.ref b48)] [(.ref b41)])) rfl (by rw [hml]; rfl) (Steps.refl _) (argsL := []) (rest := []) (lenOf pd_6 rfl) rfl (by show 2 * 0 + _ ≤ _; exact Nat.le_of_eq rfl) (hb hby at_103) (fun _ _ => ⟨rfl, e12, (by decide : 3 + 0 ≤ _), (by decide : 27 + 0 ≤ _)⟩)
  dsimp only [Pt.U, Pt.locs, Pt.cells, Pt.slots] at X18 l18 y18 z18 st18 hQ18
  subst l18 y18 z18
  obtain ⟨rfl, Nq18, e18⟩ := hQ18
  have N18 := Fr.app N12 Nq18
  -- pc 106: com/example/corestone/corestone/BulkRequest$Status.ended
  obtain ⟨cq21, kq21, q21a, q21b, q21c⟩ := isOf hZ e18 u15
  obtain ⟨_, _, ⟨T21, L21, k21, n21⟩, -, X21, ⟨Lc21, hQ21, l21, y21, z21⟩, st21⟩ := X18.virtualBack hx (y := M_5) (z := M_5) hown (mvT hZ (tw_53 hw)) (mvT hZ (tw_54 hw)) (notFace_of_selects (args := #[]) (mvT hZ (tw_56 hw))) (mvT hZ (tw_56 hw)) (mvT hZ (tw_55 hw)) (by decide) (backOf (W := 0) (rm7_34 l Z a0 hw [] a_QUEUED a_COMPLETED a_FAILED T7.heap n0 (Nat.le_trans Z0 KK7.1) u10 f7 u11 f8) hZ (tw_57 hw) (tw_1 hw) (by decide) (by decide)) q21a q21c (g := (mkF m 106 #[.val (.int p0), .val (.int p1), .val (.int p2), .val (.int p3), .val (.int 0), .val (.ref a_QUEUED), .val (.int 0), .val (.ref b41), .val (.ref b42), .val (.ref b48)] [(.ref a_QUEUED)])) rfl (by rw [hml]; rfl) (Steps.refl _) (argsL := []) (rest := []) (lenOf pd_5 rfl) rfl (by show 2 * 0 + _ ≤ _; exact Nat.le_of_eq rfl) (hb hby at_106) (fun _ _ => ⟨rfl, e18, (by decide : 3 + 0 ≤ _), (by decide : 27 + 0 ≤ _)⟩)
  dsimp only [Pt.U, Pt.locs, Pt.cells, Pt.slots] at X21 l21 y21 z21 st21 hQ21
  subst l21 y21 z21
  obtain ⟨rfl, Nq21, e21⟩ := hQ21
  have N21 := Fr.app N18 Nq21
  -- pc 114: com/example/corestone/corestone/BulkRequest.status
  have u22 : F_3 Z T7.heap b42 (.ref a_RUNNING) := Fld.keep o4_3 K7 List.not_mem_nil
  have u24 : E_1 Z T7.heap b42 := Exa.keep o4_0 K7
  obtain ⟨cq23, kq23, q23a, q23b, q23c⟩ := isOf hZ e21 u24
  obtain ⟨_, _, ⟨T23, L23, k23, n23⟩, -, X23, ⟨Lc23, hQ23, l23, y23, z23⟩, st23⟩ := X21.virtualBack hx (y := M_6) (z := M_6) hown (mvT hZ (tw_61 hw)) (mvT hZ (tw_62 hw)) (notFace_of_selects (args := #[]) (mvT hZ (tw_64 hw))) (mvT hZ (tw_64 hw)) (mvT hZ (tw_63 hw)) (by decide) (backOf (W := 0) (rm8_36 l Z a0 hw [] b42 a_RUNNING T7.heap n0 (Nat.le_trans Z0 KK7.1) u22) hZ (tw_65 hw) (tw_5 hw) (by decide) (by decide)) q23a q23c (g := (mkF m 114 #[.val (.int p0), .val (.int p1), .val (.int p2), .val (.int p3), .val (.int 0), .val (.ref a_QUEUED), .val (.int 0), .val (.ref b41), .val (.ref b42), .val (.ref b48)] [(.ref b42)])) rfl (by rw [hml]; rfl) (Steps.refl _) (argsL := []) (rest := []) (lenOf pd_6 rfl) rfl (by show 2 * 0 + _ ≤ _; exact Nat.le_of_eq rfl) (hb hby at_114) (fun _ _ => ⟨rfl, e21, (by decide : 3 + 0 ≤ _), (by decide : 27 + 0 ≤ _)⟩)
  dsimp only [Pt.U, Pt.locs, Pt.cells, Pt.slots] at X23 l23 y23 z23 st23 hQ23
  subst l23 y23 z23
  obtain ⟨rfl, Nq23, e23⟩ := hQ23
  have N23 := Fr.app N21 Nq23
  -- pc 117: com/example/corestone/corestone/BulkRequest$Status.ended
  have u26 : E_0 Z T2.heap a_RUNNING := Exa.keep f12 K2
  have u27 : E_0 Z T4.heap a_RUNNING := Exa.keep u26 K4
  have u28 : E_0 Z T7.heap a_RUNNING := Exa.keep u27 K7
  obtain ⟨cq25, kq25, q25a, q25b, q25c⟩ := isOf hZ e23 u28
  obtain ⟨_, _, ⟨T25, L25, k25, n25⟩, -, X25, ⟨Lc25, hQ25, l25, y25, z25⟩, st25⟩ := X23.virtualBack hx (y := M_5) (z := M_5) hown (mvT hZ (tw_53 hw)) (mvT hZ (tw_54 hw)) (notFace_of_selects (args := #[]) (mvT hZ (tw_56 hw))) (mvT hZ (tw_56 hw)) (mvT hZ (tw_55 hw)) (by decide) (backOf (W := 0) (rm7_37 l Z a0 hw [] a_RUNNING a_COMPLETED a_FAILED T7.heap n0 (Nat.le_trans Z0 KK7.1) u10 f10 u11 f11) hZ (tw_57 hw) (tw_1 hw) (by decide) (by decide)) q25a q25c (g := (mkF m 117 #[.val (.int p0), .val (.int p1), .val (.int p2), .val (.int p3), .val (.int 0), .val (.ref a_QUEUED), .val (.int 0), .val (.ref b41), .val (.ref b42), .val (.ref b48)] [(.ref a_RUNNING)])) rfl (by rw [hml]; rfl) (Steps.refl _) (argsL := []) (rest := []) (lenOf pd_5 rfl) rfl (by show 2 * 0 + _ ≤ _; exact Nat.le_of_eq rfl) (hb hby at_117) (fun _ _ => ⟨rfl, e23, (by decide : 3 + 0 ≤ _), (by decide : 27 + 0 ≤ _)⟩)
  dsimp only [Pt.U, Pt.locs, Pt.cells, Pt.slots] at X25 l25 y25 z25 st25 hQ25
  subst l25 y25 z25
  obtain ⟨rfl, Nq25, e25⟩ := hQ25
  have N25 := Fr.app N23 Nq25
  -- pc 125: com/example/corestone/corestone/BulkRequest.status
  obtain ⟨cq29, kq29, q29a, q29b, q29c⟩ := isOf hZ e25 o7_0
  obtain ⟨_, _, ⟨T29, L29, k29, n29⟩, -, X29, ⟨Lc29, hQ29, l29, y29, z29⟩, st29⟩ := X25.virtualBack hx (y := M_6) (z := M_6) hown (mvT hZ (tw_61 hw)) (mvT hZ (tw_62 hw)) (notFace_of_selects (args := #[]) (mvT hZ (tw_64 hw))) (mvT hZ (tw_64 hw)) (mvT hZ (tw_63 hw)) (by decide) (backOf (W := 0) (rm8_49 l Z a0 hw [] b48 a_FAILED T7.heap n0 (Nat.le_trans Z0 KK7.1) o7_3) hZ (tw_65 hw) (tw_5 hw) (by decide) (by decide)) q29a q29c (g := (mkF m 125 #[.val (.int p0), .val (.int p1), .val (.int p2), .val (.int p3), .val (.int 0), .val (.ref a_QUEUED), .val (.int 0), .val (.ref b41), .val (.ref b42), .val (.ref b48)] [(.ref b48)])) rfl (by rw [hml]; rfl) (Steps.refl _) (argsL := []) (rest := []) (lenOf pd_6 rfl) rfl (by show 2 * 0 + _ ≤ _; exact Nat.le_of_eq rfl) (hb hby at_125) (fun _ _ => ⟨rfl, e25, (by decide : 3 + 0 ≤ _), (by decide : 27 + 0 ≤ _)⟩)
  dsimp only [Pt.U, Pt.locs, Pt.cells, Pt.slots] at X29 l29 y29 z29 st29 hQ29
  subst l29 y29 z29
  obtain ⟨rfl, Nq29, e29⟩ := hQ29
  have N29 := Fr.app N25 Nq29
  -- pc 128: com/example/corestone/corestone/BulkRequest$Status.ended
  have u31 : E_0 Z T2.heap a_FAILED := Exa.keep f14 K2
  have u32 : E_0 Z T4.heap a_FAILED := Exa.keep u31 K4
  have u33 : E_0 Z T7.heap a_FAILED := Exa.keep u32 K7
  obtain ⟨cq30, kq30, q30a, q30b, q30c⟩ := isOf hZ e29 u33
  obtain ⟨_, _, ⟨T30, L30, k30, n30⟩, -, X30, ⟨Lc30, hQ30, l30, y30, z30⟩, st30⟩ := X29.virtualBack hx (y := M_5) (z := M_5) hown (mvT hZ (tw_53 hw)) (mvT hZ (tw_54 hw)) (notFace_of_selects (args := #[]) (mvT hZ (tw_56 hw))) (mvT hZ (tw_56 hw)) (mvT hZ (tw_55 hw)) (by decide) (backOf (W := 0) (rm7_50 l Z a0 hw [] a_FAILED a_COMPLETED T7.heap n0 (Nat.le_trans Z0 KK7.1) u10 f13 u11) hZ (tw_57 hw) (tw_1 hw) (by decide) (by decide)) q30a q30c (g := (mkF m 128 #[.val (.int p0), .val (.int p1), .val (.int p2), .val (.int p3), .val (.int 0), .val (.ref a_QUEUED), .val (.int 0), .val (.ref b41), .val (.ref b42), .val (.ref b48)] [(.ref a_FAILED)])) rfl (by rw [hml]; rfl) (Steps.refl _) (argsL := []) (rest := []) (lenOf pd_5 rfl) rfl (by show 2 * 0 + _ ≤ _; exact Nat.le_of_eq rfl) (hb hby at_128) (fun _ _ => ⟨rfl, e29, (by decide : 3 + 0 ≤ _), (by decide : 27 + 0 ≤ _)⟩)
  dsimp only [Pt.U, Pt.locs, Pt.cells, Pt.slots] at X30 l30 y30 z30 st30 hQ30
  subst l30 y30 z30
  obtain ⟨rfl, Nq30, e30⟩ := hQ30
  have N30 := Fr.app N29 Nq30
  obtain ⟨fs, hr, hrun, hended, hW, hsame⟩ := X30.leave (v := (some (.int 1))) (fun h => by rw [Bd.returns] at h; cases h)
  refine ⟨_, _, castTop (ef0_IIII m p0 p1 p2 p3) ?_, hrun, hended, _, _, rfl, ?_, ⟨_, rfl⟩, hW, hsame.mono (by decide) (by decide)⟩
  · show Steps p.tables e below (s₁.setTop (mkF m 0 #[.val (.int p0), .val (.int p1), .val (.int p2), .val (.int p3), .unset, .unset, .unset, .unset, .unset, .unset] [])) _
    refine XS.iloadN X0.here hx rfl (hb hby at_0) rfl ?_
    refine XS.iconst X0.here hx rfl (hb hby at_1) ?_
    show Steps p.tables e below (s₁.setTop (mkF m 2 #[.val (.int p0), .val (.int p1), .val (.int p2), .val (.int p3), .unset, .unset, .unset, .unset, .unset, .unset] [(.int 3), (.int p0)])) _
    refine XS.iand X0.here hx rfl (hb hby at_2) rfl ?_
    show Steps p.tables e below (s₁.setTop (mkF m 3 #[.val (.int p0), .val (.int p1), .val (.int p2), .val (.int p3), .unset, .unset, .unset, .unset, .unset, .unset] [(.int (p0 &&& (3 : Int32)))])) _
    rw [f1]
    refine XS.istore X0.here hx rfl (hb hby at_3) rfl (l' := #[.val (.int p0), .val (.int p1), .val (.int p2), .val (.int p3), .val (.int 0), .unset, .unset, .unset, .unset, .unset]) rfl ?_
    refine XS.iload X0.here hx rfl (hb hby at_5) rfl ?_
    refine XS.ifNo X0.here hx rfl (hb hby at_7) rfl (by decide) ?_
    show Steps p.tables e below (s₁.setTop (mkF m 10 #[.val (.int p0), .val (.int p1), .val (.int p2), .val (.int p3), .val (.int 0), .unset, .unset, .unset, .unset, .unset] [])) _
    refine st1 _ ?_
    refine XS.astore X1.here hx rfl (hb hby at_13) rfl rfl (l' := #[.val (.int p0), .val (.int p1), .val (.int p2), .val (.int p3), .val (.int 0), .val (.ref a_QUEUED), .unset, .unset, .unset, .unset]) rfl ?_
    refine XS.iconst X1.here hx rfl (hb hby at_15) ?_
    refine XS.istore X1.here hx rfl (hb hby at_16) rfl (l' := #[.val (.int p0), .val (.int p1), .val (.int p2), .val (.int p3), .val (.int 0), .val (.ref a_QUEUED), .val (.int 0), .unset, .unset, .unset]) rfl ?_
    refine XS.goto X1.here hx rfl (pc0 := 18) (pc' := 63) rfl (hb hby at_18) (by decide) (by decide) ?_
    show Steps p.tables e below (T1.setTop (mkF m 63 #[.val (.int p0), .val (.int p1), .val (.int p2), .val (.int p3), .val (.int 0), .val (.ref a_QUEUED), .val (.int 0), .unset, .unset, .unset] [])) _
    refine XS.aconstNull X1.here hx rfl (hb hby at_63) ?_
    refine XS.aconstNull X1.here hx rfl (hb hby at_64) ?_
    refine XS.iconst X1.here hx rfl (hb hby at_65) ?_
    refine XS.aconstNull X1.here hx rfl (hb hby at_66) ?_
    show Steps p.tables e below (T1.setTop (mkF m 67 #[.val (.int p0), .val (.int p1), .val (.int p2), .val (.int p3), .val (.int 0), .val (.ref a_QUEUED), .val (.int 0), .unset, .unset, .unset] [.null, (.int 0), .null, .null])) _
    refine st2 _ ?_
    refine XS.astore X2.here hx rfl (hb hby at_70) rfl rfl (l' := #[.val (.int p0), .val (.int p1), .val (.int p2), .val (.int p3), .val (.int 0), .val (.ref a_QUEUED), .val (.int 0), .val (.ref b41), .unset, .unset]) rfl ?_
    refine XS.aload X2.here hx rfl (hb hby at_72) rfl rfl ?_
    refine XS.iloadN X2.here hx rfl (hb hby at_74) rfl ?_
    refine XS.iloadN X2.here hx rfl (hb hby at_75) rfl ?_
    show Steps p.tables e below (T2.setTop (mkF m 76 #[.val (.int p0), .val (.int p1), .val (.int p2), .val (.int p3), .val (.int 0), .val (.ref a_QUEUED), .val (.int 0), .val (.ref b41), .unset, .unset] [(.int p2), (.int p1), (.ref b41)])) _
    refine XS.iloadN X2.here hx rfl (hb hby at_76) rfl ?_
    refine XS.aconstNull X2.here hx rfl (hb hby at_77) ?_
    show Steps p.tables e below (T2.setTop (mkF m 78 #[.val (.int p0), .val (.int p1), .val (.int p2), .val (.int p3), .val (.int 0), .val (.ref a_QUEUED), .val (.int 0), .val (.ref b41), .unset, .unset] [.null, (.int p3), (.int p2), (.int p1), (.ref b41)])) _
    refine st4.trans ?_
    refine XS.astore X4.here hx rfl (hb hby at_81) rfl rfl (l' := #[.val (.int p0), .val (.int p1), .val (.int p2), .val (.int p3), .val (.int 0), .val (.ref a_QUEUED), .val (.int 0), .val (.ref b41), .val (.ref b42), .unset]) rfl ?_
    refine XS.aload X4.here hx rfl (hb hby at_83) rfl rfl ?_
    refine XS.aconstNull X4.here hx rfl (hb hby at_85) ?_
    show Steps p.tables e below (T4.setTop (mkF m 86 #[.val (.int p0), .val (.int p1), .val (.int p2), .val (.int p3), .val (.int 0), .val (.ref a_QUEUED), .val (.int 0), .val (.ref b41), .val (.ref b42), .unset] [.null, (.ref b42)])) _
    refine st7.trans ?_
    refine XS.astore X7.here hx rfl (hb hby at_89) rfl rfl (l' := #[.val (.int p0), .val (.int p1), .val (.int p2), .val (.int p3), .val (.int 0), .val (.ref a_QUEUED), .val (.int 0), .val (.ref b41), .val (.ref b42), .val (.ref b48)]) rfl ?_
    refine XS.aload X7.here hx rfl (hb hby at_91) rfl rfl ?_
    show Steps p.tables e below (T7.setTop (mkF m 93 #[.val (.int p0), .val (.int p1), .val (.int p2), .val (.int p3), .val (.int 0), .val (.ref a_QUEUED), .val (.int 0), .val (.ref b41), .val (.ref b42), .val (.ref b48)] [(.ref a_QUEUED)])) _
    refine st12.trans ?_
    refine XS.iload X12.here hx rfl (hb hby at_96) rfl ?_
    refine XS.icmpNo X12.here hx rfl (hb hby at_98) rfl (by decide) ?_
    refine XS.aload X12.here hx rfl (hb hby at_101) rfl rfl ?_
    show Steps p.tables e below (T12.setTop (mkF m 103 #[.val (.int p0), .val (.int p1), .val (.int p2), .val (.int p3), .val (.int 0), .val (.ref a_QUEUED), .val (.int 0), .val (.ref b41), .val (.ref b42), .val (.ref b48)] [(.ref b41)])) _
    refine st18.trans ?_
    show Steps p.tables e below (T18.setTop (mkF m 106 #[.val (.int p0), .val (.int p1), .val (.int p2), .val (.int p3), .val (.int 0), .val (.ref a_QUEUED), .val (.int 0), .val (.ref b41), .val (.ref b42), .val (.ref b48)] [(.ref a_QUEUED)])) _
    refine st21.trans ?_
    refine XS.ifNo X21.here hx rfl (hb hby at_109) rfl (by decide) ?_
    refine XS.aload X21.here hx rfl (hb hby at_112) rfl rfl ?_
    show Steps p.tables e below (T21.setTop (mkF m 114 #[.val (.int p0), .val (.int p1), .val (.int p2), .val (.int p3), .val (.int 0), .val (.ref a_QUEUED), .val (.int 0), .val (.ref b41), .val (.ref b42), .val (.ref b48)] [(.ref b42)])) _
    refine st23.trans ?_
    show Steps p.tables e below (T23.setTop (mkF m 117 #[.val (.int p0), .val (.int p1), .val (.int p2), .val (.int p3), .val (.int 0), .val (.ref a_QUEUED), .val (.int 0), .val (.ref b41), .val (.ref b42), .val (.ref b48)] [(.ref a_RUNNING)])) _
    refine st25.trans ?_
    refine XS.ifNo X25.here hx rfl (hb hby at_120) rfl (by decide) ?_
    refine XS.aload X25.here hx rfl (hb hby at_123) rfl rfl ?_
    show Steps p.tables e below (T25.setTop (mkF m 125 #[.val (.int p0), .val (.int p1), .val (.int p2), .val (.int p3), .val (.int 0), .val (.ref a_QUEUED), .val (.int 0), .val (.ref b41), .val (.ref b42), .val (.ref b48)] [(.ref b48)])) _
    refine st29.trans ?_
    show Steps p.tables e below (T29.setTop (mkF m 128 #[.val (.int p0), .val (.int p1), .val (.int p2), .val (.int p3), .val (.int 0), .val (.ref a_QUEUED), .val (.int 0), .val (.ref b41), .val (.ref b42), .val (.ref b48)] [(.ref a_FAILED)])) _
    refine st30.trans ?_
    refine XS.ifNo X30.here hx rfl (hb hby at_131) rfl (by decide) ?_
    refine XS.iconst X30.here hx rfl (hb hby at_134) ?_
    refine XS.goto X30.here hx rfl (pc0 := 135) (pc' := 139) rfl (hb hby at_135) (by decide) (by decide) ?_
    show Steps p.tables e below (T30.setTop (mkF m 139 #[.val (.int p0), .val (.int p1), .val (.int p2), .val (.int p3), .val (.int 0), .val (.ref a_QUEUED), .val (.int 0), .val (.ref b41), .val (.ref b42), .val (.ref b48)] [(.int 1)])) _
    exact retN X30 hx (t := .boolean) Bd.returns (by simp) (hb hby at_139) hr
  · show QT n0 _ T30.heap _
    rw [e30]
    exact ⟨rfl, N30⟩
theorem tw_69 {a0 : Array Value} {Z : State} (hw : ∀ d ∈ tables_1, d.before a0 Z = true) : (Jvm.Cond.fieldLink "com/example/corestone/corestone/StatusEndedPinLaw" (13 : Nat) "com/example/corestone/corestone/BulkRequest$Status" "RUNNING" "Lcom/example/corestone/corestone/BulkRequest$Status;").before a0 Z = true := hw _ (List.mem_of_getElem? (i := 69) rfl)
set_option maxRecDepth 65536 in
set_option maxHeartbeats 40000000 in
theorem rm0_55 (l : Launch) (Z : State) (a0 : Array Value) (hw : ∀ d ∈ tables_1, d.before a0 Z = true) (ws : List Jvm.Cond) (p0 : Int32) (p1 : Int32) (p2 : Int32) (p3 : Int32) (a_RUNNING : Addr) (a_QUEUED : Addr) (a_COMPLETED : Addr) (a_FAILED : Addr) (h0 : Heap) (n0 : Nat) (Z0 : n0 ≤ h0.size) (f1 : (p0 &&& (3 : Int32)) = (1 : Int32)) (f2 : S_1 Z h0 (.ref a_RUNNING)) (f3 : S_0 Z h0 (.ref a_QUEUED)) (f4 : (0 : Int32) < (((0 : Int32) + p1) + ((0 : Int32) + p2))) (f5 : S_2 Z h0 (.ref a_COMPLETED)) (f6 : a_COMPLETED ≠ a_RUNNING) (f7 : S_3 Z h0 (.ref a_FAILED)) (f8 : a_FAILED ≠ a_RUNNING) (f9 : E_0 Z h0 a_RUNNING) (f10 : a_QUEUED ≠ a_COMPLETED) (f11 : a_QUEUED ≠ a_FAILED) (f12 : E_0 Z h0 a_QUEUED) (f13 : E_0 Z h0 a_COMPLETED) :
    MetFree l x (head1 (Jvm.Cond.code x code maxLocals ret :: ws) room_1) (fun a U => a = #[(.int p0), (.int p1), (.int p2), (.int p3)] ∧ Z.Warmed39 U.vm ∧ U.heap = h0) (fun _ _ _ _ _ => True) (fun _ U o U' => ∃ v L, o = .returned v ∧ QT n0 v U'.heap L ∧ FrameEnd U o U' L room_1.cells room_1.slots) := by
  refine MetFree.of_bodySF (plainFor_of_name pn_com_example_corestone_corestone_StatusEndedPinLaw) hisR ?_
  intro p e s m args below meth c s₁ Bd hml0 hP hK
  obtain ⟨rfl, hZ, hh⟩ := hP
  have hx := Bd.exec
  have hby := Bd.bytes
  have hml : c.maxLocals = 10 := hml0
  have hown : s.vm.findClass "com/example/corestone/corestone/StatusEndedPinLaw" = some m.cls := findClass_of_methodNamed Bd.named
  have hnm := (name_of_methodNamed Bd.named Bd.method).1
  have X0 : Stand p l e room_1 s m #[(.int p0), (.int p1), (.int p2), (.int p3)] below meth c s₁ [] 0 0 := Stand.of_body Bd
  have e0 : s₁.heap = h0 := by rw [← hh, Bd.state]; rfl
  have N0 := Fr.nil n0
  obtain ⟨T1, X1, e1, st1⟩ := getS2 X0 hx hZ hown (host := "") (Or.inl (tw_69 hw)) Via.refl e0 f2 (g := (mkF m 27 #[.val (.int p0), .val (.int p1), .val (.int p2), .val (.int p3), .val (.int 1), .unset, .unset, .unset, .unset, .unset] [])) rfl (hb hby at_27)
  -- pc 67: com/example/corestone/corestone/BulkRequest.queued
  obtain ⟨_, _, ⟨T2, L2, k2, n2⟩, -, X2, ⟨Lc2, hQ2, l2, y2, z2⟩, st2⟩ := Jvm.LawKit.callS X1 hx (y := M_2) hown (mvT hZ (tw_3 hw)) (mvT hZ (tw_4 hw)) (mvT hZ (tw_5 hw)) (mvT hZ (tw_6 hw)) (by decide) (backOf (W := 0) (rm1_19 l Z a0 hw [] a_QUEUED h0 n0 Z0 f3) hZ (tw_6 hw) (tw_5 hw) (by decide) (by decide)) (g := (mkF m 67 #[.val (.int p0), .val (.int p1), .val (.int p2), .val (.int p3), .val (.int 1), .val (.ref a_RUNNING), .val (.int 0), .unset, .unset, .unset] [.null, (.int 0), .null, .null])) rfl (by rw [hml]; rfl) (argsL := [.null, .null, (.int 0), .null]) (rest := []) (lenOf pd_2 rfl) rfl (by show 2 * 0 + _ ≤ _; exact Nat.le_of_eq rfl) (hb hby at_67) (fun _ _ => ⟨rfl, e1, (by decide : 0 + 1 ≤ _), (by decide : 0 + 9 ≤ _)⟩)
  dsimp only [Pt.U, Pt.locs, Pt.cells, Pt.slots] at X2 l2 y2 z2 st2 hQ2
  subst l2 y2 z2
  obtain ⟨b52, rfl, Nq2, K2, le_b52, o2_0, o2_1, o2_2, o2_3, o2_4, o2_5, o2_6, o2_7, o2_8, o2_9⟩ := hQ2
  have N2 := Fr.app N0 Nq2
  have sz_b52 : h0.size ≤ b52 := Nat.le_trans (Nat.le_refl _) le_b52
  have g_b52 : n0 ≤ b52 := Nat.le_trans Z0 sz_b52
  have KK2 : Keep h0 T2.heap [] := (Keep.refl h0 []).trans K2 (fun x hx => nomatch hx)
  -- pc 78: com/example/corestone/corestone/BulkRequest.running
  have u3 : S_1 Z T2.heap (.ref a_RUNNING) := own_sta_keep f2 K2 (fun _ q => nomatch q)
  obtain ⟨cq4, kq4, q4a, q4b, q4c⟩ := isOf hZ rfl o2_0
  obtain ⟨_, _, ⟨T4, L4, k4, n4⟩, -, X4, ⟨Lc4, hQ4, l4, y4, z4⟩, st4⟩ := X2.virtualBack hx (y := M_3) (z := M_3) hown (mvT hZ (tw_39 hw)) (mvT hZ (tw_40 hw)) (notFace_of_selects (args := #[]) (mvT hZ (tw_42 hw))) (mvT hZ (tw_42 hw)) (mvT hZ (tw_41 hw)) (by decide) (backOf (W := 0) (rm5_25 l Z a0 hw [] b52 p1 p2 p3 a_RUNNING T2.heap n0 (Nat.le_trans Z0 KK2.1) o2_1 o2_2 u3 o2_4 o2_6 o2_7 o2_8 o2_9) hZ (tw_43 hw) (tw_5 hw) (by decide) (by decide)) q4a q4c (g := (mkF m 78 #[.val (.int p0), .val (.int p1), .val (.int p2), .val (.int p3), .val (.int 1), .val (.ref a_RUNNING), .val (.int 0), .val (.ref b52), .unset, .unset] [.null, (.int p3), (.int p2), (.int p1), (.ref b52)])) rfl (by rw [hml]; rfl) (Steps.refl _) (argsL := [(.int p1), (.int p2), (.int p3), .null]) (rest := []) (lenOf pd_3 rfl) rfl (by show 2 * 0 + _ ≤ _; exact Nat.le_of_eq rfl) (hb hby at_78) (fun _ _ => ⟨rfl, rfl, (by decide : 1 + 1 ≤ _), (by decide : 9 + 9 ≤ _)⟩)
  dsimp only [Pt.U, Pt.locs, Pt.cells, Pt.slots] at X4 l4 y4 z4 st4 hQ4
  subst l4 y4 z4
  obtain ⟨b53, rfl, Nq4, K4, le_b53, o4_0, o4_1, o4_2, o4_3, o4_4, o4_5, o4_6, o4_7, o4_8, o4_9⟩ := hQ4
  have N4 := Fr.app N2 Nq4
  have sz_b53 : h0.size ≤ b53 := Nat.le_trans KK2.1 le_b53
  have g_b53 : n0 ≤ b53 := Nat.le_trans Z0 sz_b53
  have KK4 : Keep h0 T4.heap [] := KK2.trans K4 (fun x hx => nomatch hx)
  -- pc 86: com/example/corestone/corestone/BulkRequest.ended
  have u5 : S_2 Z T2.heap (.ref a_COMPLETED) := own_sta_keep f5 K2 (fun _ q => nomatch q)
  have u6 : S_2 Z T4.heap (.ref a_COMPLETED) := own_sta_keep u5 K4 (fun _ q => nomatch q)
  obtain ⟨cq7, kq7, q7a, q7b, q7c⟩ := isOf hZ rfl o4_0
  obtain ⟨_, _, ⟨T7, L7, k7, n7⟩, -, X7, ⟨Lc7, hQ7, l7, y7, z7⟩, st7⟩ := X4.virtualBack hx (y := M_4) (z := M_4) hown (mvT hZ (tw_46 hw)) (mvT hZ (tw_47 hw)) (notFace_of_selects (args := #[]) (mvT hZ (tw_49 hw))) (mvT hZ (tw_49 hw)) (mvT hZ (tw_48 hw)) (by decide) (backOf (W := 0) (rm6_31 l Z a0 hw [] b53 p1 p2 a_COMPLETED p3 T4.heap n0 (Nat.le_trans Z0 KK4.1) o4_1 o4_2 o4_7 o4_8 f4 u6 o4_4 o4_6 o4_9) hZ (tw_50 hw) (tw_5 hw) (by decide) (by decide)) q7a q7c (g := (mkF m 86 #[.val (.int p0), .val (.int p1), .val (.int p2), .val (.int p3), .val (.int 1), .val (.ref a_RUNNING), .val (.int 0), .val (.ref b52), .val (.ref b53), .unset] [.null, (.ref b53)])) rfl (by rw [hml]; rfl) (Steps.refl _) (argsL := [.null]) (rest := []) (lenOf pd_4 rfl) rfl (by show 2 * 0 + _ ≤ _; exact Nat.le_of_eq rfl) (hb hby at_86) (fun _ _ => ⟨rfl, rfl, (by decide : 2 + 1 ≤ _), (by decide : 18 + 9 ≤ _)⟩)
  dsimp only [Pt.U, Pt.locs, Pt.cells, Pt.slots] at X7 l7 y7 z7 st7 hQ7
  subst l7 y7 z7
  obtain ⟨b54, rfl, Nq7, K7, le_b54, o7_0, o7_1, o7_2, o7_3, o7_4, o7_5, o7_6, o7_7, o7_8, o7_9⟩ := hQ7
  have N7 := Fr.app N4 Nq7
  have sz_b54 : h0.size ≤ b54 := Nat.le_trans KK4.1 le_b54
  have g_b54 : n0 ≤ b54 := Nat.le_trans Z0 sz_b54
  have KK7 : Keep h0 T7.heap [] := KK4.trans K7 (fun x hx => nomatch hx)
  -- pc 93: com/example/corestone/corestone/BulkRequest$Status.ended
  have u8 : S_2 Z T7.heap (.ref a_COMPLETED) := own_sta_keep u6 K7 (fun _ q => nomatch q)
  have u9 : S_3 Z T2.heap (.ref a_FAILED) := own_sta_keep f7 K2 (fun _ q => nomatch q)
  have u10 : S_3 Z T4.heap (.ref a_FAILED) := own_sta_keep u9 K4 (fun _ q => nomatch q)
  have u11 : S_3 Z T7.heap (.ref a_FAILED) := own_sta_keep u10 K7 (fun _ q => nomatch q)
  have u13 : E_0 Z T2.heap a_RUNNING := Exa.keep f9 K2
  have u14 : E_0 Z T4.heap a_RUNNING := Exa.keep u13 K4
  have u15 : E_0 Z T7.heap a_RUNNING := Exa.keep u14 K7
  obtain ⟨cq12, kq12, q12a, q12b, q12c⟩ := isOf hZ rfl u15
  obtain ⟨_, _, ⟨T12, L12, k12, n12⟩, -, X12, ⟨Lc12, hQ12, l12, y12, z12⟩, st12⟩ := X7.virtualBack hx (y := M_5) (z := M_5) hown (mvT hZ (tw_53 hw)) (mvT hZ (tw_54 hw)) (notFace_of_selects (args := #[]) (mvT hZ (tw_56 hw))) (mvT hZ (tw_56 hw)) (mvT hZ (tw_55 hw)) (by decide) (backOf (W := 0) (rm7_37 l Z a0 hw [] a_RUNNING a_COMPLETED a_FAILED T7.heap n0 (Nat.le_trans Z0 KK7.1) u8 f6 u11 f8) hZ (tw_57 hw) (tw_1 hw) (by decide) (by decide)) q12a q12c (g := (mkF m 93 #[.val (.int p0), .val (.int p1), .val (.int p2), .val (.int p3), .val (.int 1), .val (.ref a_RUNNING), .val (.int 0), .val (.ref b52), .val (.ref b53), .val (.ref b54)] [(.ref a_RUNNING)])) rfl (by rw [hml]; rfl) (Steps.refl _) (argsL := []) (rest := []) (lenOf pd_5 rfl) rfl (by show 2 * 0 + _ ≤ _; exact Nat.le_of_eq rfl) (hb hby at_93) (fun _ _ => ⟨rfl, rfl, (by decide : 3 + 0 ≤ _), (by decide : 27 + 0 ≤ _)⟩)
  dsimp only [Pt.U, Pt.locs, Pt.cells, Pt.slots] at X12 l12 y12 z12 st12 hQ12
  subst l12 y12 z12
  obtain ⟨rfl, Nq12, e12⟩ := hQ12
  have N12 := Fr.app N7 Nq12
  -- pc 103: com/example/corestone/corestone/BulkRequest.status
  have u16 : F_3 Z T4.heap b52 (.ref a_QUEUED) := Fld.keep o2_3 K4 List.not_mem_nil
  have u17 : F_3 Z T7.heap b52 (.ref a_QUEUED) := Fld.keep u16 K7 List.not_mem_nil
  have u19 : E_1 Z T4.heap b52 := Exa.keep o2_0 K4
  have u20 : E_1 Z T7.heap b52 := Exa.keep u19 K7
  obtain ⟨cq18, kq18, q18a, q18b, q18c⟩ := isOf hZ e12 u20
  obtain ⟨_, _, ⟨T18, L18, k18, n18⟩, -, X18, ⟨Lc18, hQ18, l18, y18, z18⟩, st18⟩ := X12.virtualBack hx (y := M_6) (z := M_6) hown (mvT hZ (tw_61 hw)) (mvT hZ (tw_62 hw)) (notFace_of_selects (args := #[]) (mvT hZ (tw_64 hw))) (mvT hZ (tw_64 hw)) (mvT hZ (tw_63 hw)) (by decide) (backOf (W := 0) (rm8_35 l Z a0 hw [] b52 a_QUEUED T7.heap n0 (Nat.le_trans Z0 KK7.1) u17) hZ (tw_65 hw) (tw_5 hw) (by decide) (by decide)) q18a q18c (g := (mkF m 103 #[.val (.int p0), .val (.int p1), .val (.int p2), .val (.int p3), .val (.int 1), .val (.ref a_RUNNING), .val (.int 0), .val (.ref b52), .val (.ref b53), .val (.ref b54)] [(.ref b52)])) rfl (by rw [hml]; rfl) (Steps.refl _) (argsL := []) (rest := []) (lenOf pd_6 rfl) rfl (by show 2 * 0 + _ ≤ _; exact Nat.le_of_eq rfl) (hb hby at_103) (fun _ _ => ⟨rfl, e12, (by decide : 3 + 0 ≤ _), (by decide : 27 + 0 ≤ _)⟩)
  dsimp only [Pt.U, Pt.locs, Pt.cells, Pt.slots] at X18 l18 y18 z18 st18 hQ18
  subst l18 y18 z18
  obtain ⟨rfl, Nq18, e18⟩ := hQ18
  have N18 := Fr.app N12 Nq18
  -- pc 106: com/example/corestone/corestone/BulkRequest$Status.ended
  have u22 : E_0 Z T2.heap a_QUEUED := Exa.keep f12 K2
  have u23 : E_0 Z T4.heap a_QUEUED := Exa.keep u22 K4
  have u24 : E_0 Z T7.heap a_QUEUED := Exa.keep u23 K7
  obtain ⟨cq21, kq21, q21a, q21b, q21c⟩ := isOf hZ e18 u24
  obtain ⟨_, _, ⟨T21, L21, k21, n21⟩, -, X21, ⟨Lc21, hQ21, l21, y21, z21⟩, st21⟩ := X18.virtualBack hx (y := M_5) (z := M_5) hown (mvT hZ (tw_53 hw)) (mvT hZ (tw_54 hw)) (notFace_of_selects (args := #[]) (mvT hZ (tw_56 hw))) (mvT hZ (tw_56 hw)) (mvT hZ (tw_55 hw)) (by decide) (backOf (W := 0) (rm7_34 l Z a0 hw [] a_QUEUED a_COMPLETED a_FAILED T7.heap n0 (Nat.le_trans Z0 KK7.1) u8 f10 u11 f11) hZ (tw_57 hw) (tw_1 hw) (by decide) (by decide)) q21a q21c (g := (mkF m 106 #[.val (.int p0), .val (.int p1), .val (.int p2), .val (.int p3), .val (.int 1), .val (.ref a_RUNNING), .val (.int 0), .val (.ref b52), .val (.ref b53), .val (.ref b54)] [(.ref a_QUEUED)])) rfl (by rw [hml]; rfl) (Steps.refl _) (argsL := []) (rest := []) (lenOf pd_5 rfl) rfl (by show 2 * 0 + _ ≤ _; exact Nat.le_of_eq rfl) (hb hby at_106) (fun _ _ => ⟨rfl, e18, (by decide : 3 + 0 ≤ _), (by decide : 27 + 0 ≤ _)⟩)
  dsimp only [Pt.U, Pt.locs, Pt.cells, Pt.slots] at X21 l21 y21 z21 st21 hQ21
  subst l21 y21 z21
  obtain ⟨rfl, Nq21, e21⟩ := hQ21
  have N21 := Fr.app N18 Nq21
  -- pc 114: com/example/corestone/corestone/BulkRequest.status
  have u25 : F_3 Z T7.heap b53 (.ref a_RUNNING) := Fld.keep o4_3 K7 List.not_mem_nil
  have u27 : E_1 Z T7.heap b53 := Exa.keep o4_0 K7
  obtain ⟨cq26, kq26, q26a, q26b, q26c⟩ := isOf hZ e21 u27
  obtain ⟨_, _, ⟨T26, L26, k26, n26⟩, -, X26, ⟨Lc26, hQ26, l26, y26, z26⟩, st26⟩ := X21.virtualBack hx (y := M_6) (z := M_6) hown (mvT hZ (tw_61 hw)) (mvT hZ (tw_62 hw)) (notFace_of_selects (args := #[]) (mvT hZ (tw_64 hw))) (mvT hZ (tw_64 hw)) (mvT hZ (tw_63 hw)) (by decide) (backOf (W := 0) (rm8_36 l Z a0 hw [] b53 a_RUNNING T7.heap n0 (Nat.le_trans Z0 KK7.1) u25) hZ (tw_65 hw) (tw_5 hw) (by decide) (by decide)) q26a q26c (g := (mkF m 114 #[.val (.int p0), .val (.int p1), .val (.int p2), .val (.int p3), .val (.int 1), .val (.ref a_RUNNING), .val (.int 0), .val (.ref b52), .val (.ref b53), .val (.ref b54)] [(.ref b53)])) rfl (by rw [hml]; rfl) (Steps.refl _) (argsL := []) (rest := []) (lenOf pd_6 rfl) rfl (by show 2 * 0 + _ ≤ _; exact Nat.le_of_eq rfl) (hb hby at_114) (fun _ _ => ⟨rfl, e21, (by decide : 3 + 0 ≤ _), (by decide : 27 + 0 ≤ _)⟩)
  dsimp only [Pt.U, Pt.locs, Pt.cells, Pt.slots] at X26 l26 y26 z26 st26 hQ26
  subst l26 y26 z26
  obtain ⟨rfl, Nq26, e26⟩ := hQ26
  have N26 := Fr.app N21 Nq26
  -- pc 117: com/example/corestone/corestone/BulkRequest$Status.ended
  obtain ⟨cq28, kq28, q28a, q28b, q28c⟩ := isOf hZ e26 u15
  obtain ⟨_, _, ⟨T28, L28, k28, n28⟩, -, X28, ⟨Lc28, hQ28, l28, y28, z28⟩, st28⟩ := X26.virtualBack hx (y := M_5) (z := M_5) hown (mvT hZ (tw_53 hw)) (mvT hZ (tw_54 hw)) (notFace_of_selects (args := #[]) (mvT hZ (tw_56 hw))) (mvT hZ (tw_56 hw)) (mvT hZ (tw_55 hw)) (by decide) (backOf (W := 0) (rm7_37 l Z a0 hw [] a_RUNNING a_COMPLETED a_FAILED T7.heap n0 (Nat.le_trans Z0 KK7.1) u8 f6 u11 f8) hZ (tw_57 hw) (tw_1 hw) (by decide) (by decide)) q28a q28c (g := (mkF m 117 #[.val (.int p0), .val (.int p1), .val (.int p2), .val (.int p3), .val (.int 1), .val (.ref a_RUNNING), .val (.int 0), .val (.ref b52), .val (.ref b53), .val (.ref b54)] [(.ref a_RUNNING)])) rfl (by rw [hml]; rfl) (Steps.refl _) (argsL := []) (rest := []) (lenOf pd_5 rfl) rfl (by show 2 * 0 + _ ≤ _; exact Nat.le_of_eq rfl) (hb hby at_117) (fun _ _ => ⟨rfl, e26, (by decide : 3 + 0 ≤ _), (by decide : 27 + 0 ≤ _)⟩)
  dsimp only [Pt.U, Pt.locs, Pt.cells, Pt.slots] at X28 l28 y28 z28 st28 hQ28
  subst l28 y28 z28
  obtain ⟨rfl, Nq28, e28⟩ := hQ28
  have N28 := Fr.app N26 Nq28
  -- pc 125: com/example/corestone/corestone/BulkRequest.status
  obtain ⟨cq29, kq29, q29a, q29b, q29c⟩ := isOf hZ e28 o7_0
  obtain ⟨_, _, ⟨T29, L29, k29, n29⟩, -, X29, ⟨Lc29, hQ29, l29, y29, z29⟩, st29⟩ := X28.virtualBack hx (y := M_6) (z := M_6) hown (mvT hZ (tw_61 hw)) (mvT hZ (tw_62 hw)) (notFace_of_selects (args := #[]) (mvT hZ (tw_64 hw))) (mvT hZ (tw_64 hw)) (mvT hZ (tw_63 hw)) (by decide) (backOf (W := 0) (rm8_38 l Z a0 hw [] b54 a_COMPLETED T7.heap n0 (Nat.le_trans Z0 KK7.1) o7_3) hZ (tw_65 hw) (tw_5 hw) (by decide) (by decide)) q29a q29c (g := (mkF m 125 #[.val (.int p0), .val (.int p1), .val (.int p2), .val (.int p3), .val (.int 1), .val (.ref a_RUNNING), .val (.int 0), .val (.ref b52), .val (.ref b53), .val (.ref b54)] [(.ref b54)])) rfl (by rw [hml]; rfl) (Steps.refl _) (argsL := []) (rest := []) (lenOf pd_6 rfl) rfl (by show 2 * 0 + _ ≤ _; exact Nat.le_of_eq rfl) (hb hby at_125) (fun _ _ => ⟨rfl, e28, (by decide : 3 + 0 ≤ _), (by decide : 27 + 0 ≤ _)⟩)
  dsimp only [Pt.U, Pt.locs, Pt.cells, Pt.slots] at X29 l29 y29 z29 st29 hQ29
  subst l29 y29 z29
  obtain ⟨rfl, Nq29, e29⟩ := hQ29
  have N29 := Fr.app N28 Nq29
  -- pc 128: com/example/corestone/corestone/BulkRequest$Status.ended
  have u31 : E_0 Z T2.heap a_COMPLETED := Exa.keep f13 K2
  have u32 : E_0 Z T4.heap a_COMPLETED := Exa.keep u31 K4
  have u33 : E_0 Z T7.heap a_COMPLETED := Exa.keep u32 K7
  obtain ⟨cq30, kq30, q30a, q30b, q30c⟩ := isOf hZ e29 u33
  obtain ⟨_, _, ⟨T30, L30, k30, n30⟩, -, X30, ⟨Lc30, hQ30, l30, y30, z30⟩, st30⟩ := X29.virtualBack hx (y := M_5) (z := M_5) hown (mvT hZ (tw_53 hw)) (mvT hZ (tw_54 hw)) (notFace_of_selects (args := #[]) (mvT hZ (tw_56 hw))) (mvT hZ (tw_56 hw)) (mvT hZ (tw_55 hw)) (by decide) (backOf (W := 0) (rm7_39 l Z a0 hw [] a_COMPLETED T7.heap n0 (Nat.le_trans Z0 KK7.1) u8) hZ (tw_57 hw) (tw_1 hw) (by decide) (by decide)) q30a q30c (g := (mkF m 128 #[.val (.int p0), .val (.int p1), .val (.int p2), .val (.int p3), .val (.int 1), .val (.ref a_RUNNING), .val (.int 0), .val (.ref b52), .val (.ref b53), .val (.ref b54)] [(.ref a_COMPLETED)])) rfl (by rw [hml]; rfl) (Steps.refl _) (argsL := []) (rest := []) (lenOf pd_5 rfl) rfl (by show 2 * 0 + _ ≤ _; exact Nat.le_of_eq rfl) (hb hby at_128) (fun _ _ => ⟨rfl, e29, (by decide : 3 + 0 ≤ _), (by decide : 27 + 0 ≤ _)⟩)
  dsimp only [Pt.U, Pt.locs, Pt.cells, Pt.slots] at X30 l30 y30 z30 st30 hQ30
  subst l30 y30 z30
  obtain ⟨rfl, Nq30, e30⟩ := hQ30
  have N30 := Fr.app N29 Nq30
  obtain ⟨fs, hr, hrun, hended, hW, hsame⟩ := X30.leave (v := (some (.int 1))) (fun h => by rw [Bd.returns] at h; cases h)
  refine ⟨_, _, castTop (ef0_IIII m p0 p1 p2 p3) ?_, hrun, hended, _, _, rfl, ?_, ⟨_, rfl⟩, hW, hsame.mono (by decide) (by decide)⟩
  · show Steps p.tables e below (s₁.setTop (mkF m 0 #[.val (.int p0), .val (.int p1), .val (.int p2), .val (.int p3), .unset, .unset, .unset, .unset, .unset, .unset] [])) _
    refine XS.iloadN X0.here hx rfl (hb hby at_0) rfl ?_
    refine XS.iconst X0.here hx rfl (hb hby at_1) ?_
    show Steps p.tables e below (s₁.setTop (mkF m 2 #[.val (.int p0), .val (.int p1), .val (.int p2), .val (.int p3), .unset, .unset, .unset, .unset, .unset, .unset] [(.int 3), (.int p0)])) _
    refine XS.iand X0.here hx rfl (hb hby at_2) rfl ?_
    show Steps p.tables e below (s₁.setTop (mkF m 3 #[.val (.int p0), .val (.int p1), .val (.int p2), .val (.int p3), .unset, .unset, .unset, .unset, .unset, .unset] [(.int (p0 &&& (3 : Int32)))])) _
    rw [f1]
    refine XS.istore X0.here hx rfl (hb hby at_3) rfl (l' := #[.val (.int p0), .val (.int p1), .val (.int p2), .val (.int p3), .val (.int 1), .unset, .unset, .unset, .unset, .unset]) rfl ?_
    refine XS.iload X0.here hx rfl (hb hby at_5) rfl ?_
    refine XS.ifYes X0.here hx rfl (pc0 := 7) (pc' := 21) rfl (hb hby at_7) rfl (by decide) (by decide) (by decide) ?_
    refine XS.iload X0.here hx rfl (hb hby at_21) rfl ?_
    show Steps p.tables e below (s₁.setTop (mkF m 23 #[.val (.int p0), .val (.int p1), .val (.int p2), .val (.int p3), .val (.int 1), .unset, .unset, .unset, .unset, .unset] [(.int 1)])) _
    refine XS.iconst X0.here hx rfl (hb hby at_23) ?_
    refine XS.icmpNo X0.here hx rfl (hb hby at_24) rfl (by decide) ?_
    show Steps p.tables e below (s₁.setTop (mkF m 27 #[.val (.int p0), .val (.int p1), .val (.int p2), .val (.int p3), .val (.int 1), .unset, .unset, .unset, .unset, .unset] [])) _
    refine st1 _ ?_
    refine XS.astore X1.here hx rfl (hb hby at_30) rfl rfl (l' := #[.val (.int p0), .val (.int p1), .val (.int p2), .val (.int p3), .val (.int 1), .val (.ref a_RUNNING), .unset, .unset, .unset, .unset]) rfl ?_
    refine XS.iconst X1.here hx rfl (hb hby at_32) ?_
    refine XS.istore X1.here hx rfl (hb hby at_33) rfl (l' := #[.val (.int p0), .val (.int p1), .val (.int p2), .val (.int p3), .val (.int 1), .val (.ref a_RUNNING), .val (.int 0), .unset, .unset, .unset]) rfl ?_
    refine XS.goto X1.here hx rfl (pc0 := 35) (pc' := 63) rfl (hb hby at_35) (by decide) (by decide) ?_
    show Steps p.tables e below (T1.setTop (mkF m 63 #[.val (.int p0), .val (.int p1), .val (.int p2), .val (.int p3), .val (.int 1), .val (.ref a_RUNNING), .val (.int 0), .unset, .unset, .unset] [])) _
    refine XS.aconstNull X1.here hx rfl (hb hby at_63) ?_
    refine XS.aconstNull X1.here hx rfl (hb hby at_64) ?_
    refine XS.iconst X1.here hx rfl (hb hby at_65) ?_
    refine XS.aconstNull X1.here hx rfl (hb hby at_66) ?_
    show Steps p.tables e below (T1.setTop (mkF m 67 #[.val (.int p0), .val (.int p1), .val (.int p2), .val (.int p3), .val (.int 1), .val (.ref a_RUNNING), .val (.int 0), .unset, .unset, .unset] [.null, (.int 0), .null, .null])) _
    refine st2 _ ?_
    refine XS.astore X2.here hx rfl (hb hby at_70) rfl rfl (l' := #[.val (.int p0), .val (.int p1), .val (.int p2), .val (.int p3), .val (.int 1), .val (.ref a_RUNNING), .val (.int 0), .val (.ref b52), .unset, .unset]) rfl ?_
    refine XS.aload X2.here hx rfl (hb hby at_72) rfl rfl ?_
    refine XS.iloadN X2.here hx rfl (hb hby at_74) rfl ?_
    refine XS.iloadN X2.here hx rfl (hb hby at_75) rfl ?_
    show Steps p.tables e below (T2.setTop (mkF m 76 #[.val (.int p0), .val (.int p1), .val (.int p2), .val (.int p3), .val (.int 1), .val (.ref a_RUNNING), .val (.int 0), .val (.ref b52), .unset, .unset] [(.int p2), (.int p1), (.ref b52)])) _
    refine XS.iloadN X2.here hx rfl (hb hby at_76) rfl ?_
    refine XS.aconstNull X2.here hx rfl (hb hby at_77) ?_
    show Steps p.tables e below (T2.setTop (mkF m 78 #[.val (.int p0), .val (.int p1), .val (.int p2), .val (.int p3), .val (.int 1), .val (.ref a_RUNNING), .val (.int 0), .val (.ref b52), .unset, .unset] [.null, (.int p3), (.int p2), (.int p1), (.ref b52)])) _
    refine st4.trans ?_
    refine XS.astore X4.here hx rfl (hb hby at_81) rfl rfl (l' := #[.val (.int p0), .val (.int p1), .val (.int p2), .val (.int p3), .val (.int 1), .val (.ref a_RUNNING), .val (.int 0), .val (.ref b52), .val (.ref b53), .unset]) rfl ?_
    refine XS.aload X4.here hx rfl (hb hby at_83) rfl rfl ?_
    refine XS.aconstNull X4.here hx rfl (hb hby at_85) ?_
    show Steps p.tables e below (T4.setTop (mkF m 86 #[.val (.int p0), .val (.int p1), .val (.int p2), .val (.int p3), .val (.int 1), .val (.ref a_RUNNING), .val (.int 0), .val (.ref b52), .val (.ref b53), .unset] [.null, (.ref b53)])) _
    refine st7.trans ?_
    refine XS.astore X7.here hx rfl (hb hby at_89) rfl rfl (l' := #[.val (.int p0), .val (.int p1), .val (.int p2), .val (.int p3), .val (.int 1), .val (.ref a_RUNNING), .val (.int 0), .val (.ref b52), .val (.ref b53), .val (.ref b54)]) rfl ?_
    refine XS.aload X7.here hx rfl (hb hby at_91) rfl rfl ?_
    show Steps p.tables e below (T7.setTop (mkF m 93 #[.val (.int p0), .val (.int p1), .val (.int p2), .val (.int p3), .val (.int 1), .val (.ref a_RUNNING), .val (.int 0), .val (.ref b52), .val (.ref b53), .val (.ref b54)] [(.ref a_RUNNING)])) _
    refine st12.trans ?_
    refine XS.iload X12.here hx rfl (hb hby at_96) rfl ?_
    refine XS.icmpNo X12.here hx rfl (hb hby at_98) rfl (by decide) ?_
    refine XS.aload X12.here hx rfl (hb hby at_101) rfl rfl ?_
    show Steps p.tables e below (T12.setTop (mkF m 103 #[.val (.int p0), .val (.int p1), .val (.int p2), .val (.int p3), .val (.int 1), .val (.ref a_RUNNING), .val (.int 0), .val (.ref b52), .val (.ref b53), .val (.ref b54)] [(.ref b52)])) _
    refine st18.trans ?_
    show Steps p.tables e below (T18.setTop (mkF m 106 #[.val (.int p0), .val (.int p1), .val (.int p2), .val (.int p3), .val (.int 1), .val (.ref a_RUNNING), .val (.int 0), .val (.ref b52), .val (.ref b53), .val (.ref b54)] [(.ref a_QUEUED)])) _
    refine st21.trans ?_
    refine XS.ifNo X21.here hx rfl (hb hby at_109) rfl (by decide) ?_
    refine XS.aload X21.here hx rfl (hb hby at_112) rfl rfl ?_
    show Steps p.tables e below (T21.setTop (mkF m 114 #[.val (.int p0), .val (.int p1), .val (.int p2), .val (.int p3), .val (.int 1), .val (.ref a_RUNNING), .val (.int 0), .val (.ref b52), .val (.ref b53), .val (.ref b54)] [(.ref b53)])) _
    refine st26.trans ?_
    show Steps p.tables e below (T26.setTop (mkF m 117 #[.val (.int p0), .val (.int p1), .val (.int p2), .val (.int p3), .val (.int 1), .val (.ref a_RUNNING), .val (.int 0), .val (.ref b52), .val (.ref b53), .val (.ref b54)] [(.ref a_RUNNING)])) _
    refine st28.trans ?_
    refine XS.ifNo X28.here hx rfl (hb hby at_120) rfl (by decide) ?_
    refine XS.aload X28.here hx rfl (hb hby at_123) rfl rfl ?_
    show Steps p.tables e below (T28.setTop (mkF m 125 #[.val (.int p0), .val (.int p1), .val (.int p2), .val (.int p3), .val (.int 1), .val (.ref a_RUNNING), .val (.int 0), .val (.ref b52), .val (.ref b53), .val (.ref b54)] [(.ref b54)])) _
    refine st29.trans ?_
    show Steps p.tables e below (T29.setTop (mkF m 128 #[.val (.int p0), .val (.int p1), .val (.int p2), .val (.int p3), .val (.int 1), .val (.ref a_RUNNING), .val (.int 0), .val (.ref b52), .val (.ref b53), .val (.ref b54)] [(.ref a_COMPLETED)])) _
    refine st30.trans ?_
    refine XS.ifNo X30.here hx rfl (hb hby at_131) rfl (by decide) ?_
    refine XS.iconst X30.here hx rfl (hb hby at_134) ?_
    refine XS.goto X30.here hx rfl (pc0 := 135) (pc' := 139) rfl (hb hby at_135) (by decide) (by decide) ?_
    show Steps p.tables e below (T30.setTop (mkF m 139 #[.val (.int p0), .val (.int p1), .val (.int p2), .val (.int p3), .val (.int 1), .val (.ref a_RUNNING), .val (.int 0), .val (.ref b52), .val (.ref b53), .val (.ref b54)] [(.int 1)])) _
    exact retN X30 hx (t := .boolean) Bd.returns (by simp) (hb hby at_139) hr
  · show QT n0 _ T30.heap _
    rw [e30]
    exact ⟨rfl, N30⟩
set_option maxRecDepth 65536 in
set_option maxHeartbeats 40000000 in
theorem rm0_59 (l : Launch) (Z : State) (a0 : Array Value) (hw : ∀ d ∈ tables_1, d.before a0 Z = true) (ws : List Jvm.Cond) (p0 : Int32) (p1 : Int32) (p2 : Int32) (p3 : Int32) (a_RUNNING : Addr) (a_QUEUED : Addr) (a_FAILED : Addr) (a_COMPLETED : Addr) (h0 : Heap) (n0 : Nat) (Z0 : n0 ≤ h0.size) (f1 : (p0 &&& (3 : Int32)) = (1 : Int32)) (f2 : S_1 Z h0 (.ref a_RUNNING)) (f3 : S_0 Z h0 (.ref a_QUEUED)) (f4 : ¬ ((0 : Int32) < (((0 : Int32) + p1) + ((0 : Int32) + p2)))) (f5 : S_3 Z h0 (.ref a_FAILED)) (f6 : S_2 Z h0 (.ref a_COMPLETED)) (f7 : a_COMPLETED ≠ a_RUNNING) (f8 : a_FAILED ≠ a_RUNNING) (f9 : E_0 Z h0 a_RUNNING) (f10 : a_QUEUED ≠ a_COMPLETED) (f11 : a_QUEUED ≠ a_FAILED) (f12 : E_0 Z h0 a_QUEUED) (f13 : a_COMPLETED ≠ a_FAILED) (f14 : E_0 Z h0 a_FAILED) :
    MetFree l x (head1 (Jvm.Cond.code x code maxLocals ret :: ws) room_1) (fun a U => a = #[(.int p0), (.int p1), (.int p2), (.int p3)] ∧ Z.Warmed39 U.vm ∧ U.heap = h0) (fun _ _ _ _ _ => True) (fun _ U o U' => ∃ v L, o = .returned v ∧ QT n0 v U'.heap L ∧ FrameEnd U o U' L room_1.cells room_1.slots) := by
  refine MetFree.of_bodySF (plainFor_of_name pn_com_example_corestone_corestone_StatusEndedPinLaw) hisR ?_
  intro p e s m args below meth c s₁ Bd hml0 hP hK
  obtain ⟨rfl, hZ, hh⟩ := hP
  have hx := Bd.exec
  have hby := Bd.bytes
  have hml : c.maxLocals = 10 := hml0
  have hown : s.vm.findClass "com/example/corestone/corestone/StatusEndedPinLaw" = some m.cls := findClass_of_methodNamed Bd.named
  have hnm := (name_of_methodNamed Bd.named Bd.method).1
  have X0 : Stand p l e room_1 s m #[(.int p0), (.int p1), (.int p2), (.int p3)] below meth c s₁ [] 0 0 := Stand.of_body Bd
  have e0 : s₁.heap = h0 := by rw [← hh, Bd.state]; rfl
  have N0 := Fr.nil n0
  obtain ⟨T1, X1, e1, st1⟩ := getS2 X0 hx hZ hown (host := "") (Or.inl (tw_69 hw)) Via.refl e0 f2 (g := (mkF m 27 #[.val (.int p0), .val (.int p1), .val (.int p2), .val (.int p3), .val (.int 1), .unset, .unset, .unset, .unset, .unset] [])) rfl (hb hby at_27)
  -- pc 67: com/example/corestone/corestone/BulkRequest.queued
  obtain ⟨_, _, ⟨T2, L2, k2, n2⟩, -, X2, ⟨Lc2, hQ2, l2, y2, z2⟩, st2⟩ := Jvm.LawKit.callS X1 hx (y := M_2) hown (mvT hZ (tw_3 hw)) (mvT hZ (tw_4 hw)) (mvT hZ (tw_5 hw)) (mvT hZ (tw_6 hw)) (by decide) (backOf (W := 0) (rm1_19 l Z a0 hw [] a_QUEUED h0 n0 Z0 f3) hZ (tw_6 hw) (tw_5 hw) (by decide) (by decide)) (g := (mkF m 67 #[.val (.int p0), .val (.int p1), .val (.int p2), .val (.int p3), .val (.int 1), .val (.ref a_RUNNING), .val (.int 0), .unset, .unset, .unset] [.null, (.int 0), .null, .null])) rfl (by rw [hml]; rfl) (argsL := [.null, .null, (.int 0), .null]) (rest := []) (lenOf pd_2 rfl) rfl (by show 2 * 0 + _ ≤ _; exact Nat.le_of_eq rfl) (hb hby at_67) (fun _ _ => ⟨rfl, e1, (by decide : 0 + 1 ≤ _), (by decide : 0 + 9 ≤ _)⟩)
  dsimp only [Pt.U, Pt.locs, Pt.cells, Pt.slots] at X2 l2 y2 z2 st2 hQ2
  subst l2 y2 z2
  obtain ⟨b56, rfl, Nq2, K2, le_b56, o2_0, o2_1, o2_2, o2_3, o2_4, o2_5, o2_6, o2_7, o2_8, o2_9⟩ := hQ2
  have N2 := Fr.app N0 Nq2
  have sz_b56 : h0.size ≤ b56 := Nat.le_trans (Nat.le_refl _) le_b56
  have g_b56 : n0 ≤ b56 := Nat.le_trans Z0 sz_b56
  have KK2 : Keep h0 T2.heap [] := (Keep.refl h0 []).trans K2 (fun x hx => nomatch hx)
  -- pc 78: com/example/corestone/corestone/BulkRequest.running
  have u3 : S_1 Z T2.heap (.ref a_RUNNING) := own_sta_keep f2 K2 (fun _ q => nomatch q)
  obtain ⟨cq4, kq4, q4a, q4b, q4c⟩ := isOf hZ rfl o2_0
  obtain ⟨_, _, ⟨T4, L4, k4, n4⟩, -, X4, ⟨Lc4, hQ4, l4, y4, z4⟩, st4⟩ := X2.virtualBack hx (y := M_3) (z := M_3) hown (mvT hZ (tw_39 hw)) (mvT hZ (tw_40 hw)) (notFace_of_selects (args := #[]) (mvT hZ (tw_42 hw))) (mvT hZ (tw_42 hw)) (mvT hZ (tw_41 hw)) (by decide) (backOf (W := 0) (rm5_25 l Z a0 hw [] b56 p1 p2 p3 a_RUNNING T2.heap n0 (Nat.le_trans Z0 KK2.1) o2_1 o2_2 u3 o2_4 o2_6 o2_7 o2_8 o2_9) hZ (tw_43 hw) (tw_5 hw) (by decide) (by decide)) q4a q4c (g := (mkF m 78 #[.val (.int p0), .val (.int p1), .val (.int p2), .val (.int p3), .val (.int 1), .val (.ref a_RUNNING), .val (.int 0), .val (.ref b56), .unset, .unset] [.null, (.int p3), (.int p2), (.int p1), (.ref b56)])) rfl (by rw [hml]; rfl) (Steps.refl _) (argsL := [(.int p1), (.int p2), (.int p3), .null]) (rest := []) (lenOf pd_3 rfl) rfl (by show 2 * 0 + _ ≤ _; exact Nat.le_of_eq rfl) (hb hby at_78) (fun _ _ => ⟨rfl, rfl, (by decide : 1 + 1 ≤ _), (by decide : 9 + 9 ≤ _)⟩)
  dsimp only [Pt.U, Pt.locs, Pt.cells, Pt.slots] at X4 l4 y4 z4 st4 hQ4
  subst l4 y4 z4
  obtain ⟨b57, rfl, Nq4, K4, le_b57, o4_0, o4_1, o4_2, o4_3, o4_4, o4_5, o4_6, o4_7, o4_8, o4_9⟩ := hQ4
  have N4 := Fr.app N2 Nq4
  have sz_b57 : h0.size ≤ b57 := Nat.le_trans KK2.1 le_b57
  have g_b57 : n0 ≤ b57 := Nat.le_trans Z0 sz_b57
  have KK4 : Keep h0 T4.heap [] := KK2.trans K4 (fun x hx => nomatch hx)
  -- pc 86: com/example/corestone/corestone/BulkRequest.ended
  have u5 : S_3 Z T2.heap (.ref a_FAILED) := own_sta_keep f5 K2 (fun _ q => nomatch q)
  have u6 : S_3 Z T4.heap (.ref a_FAILED) := own_sta_keep u5 K4 (fun _ q => nomatch q)
  obtain ⟨cq7, kq7, q7a, q7b, q7c⟩ := isOf hZ rfl o4_0
  obtain ⟨_, _, ⟨T7, L7, k7, n7⟩, -, X7, ⟨Lc7, hQ7, l7, y7, z7⟩, st7⟩ := X4.virtualBack hx (y := M_4) (z := M_4) hown (mvT hZ (tw_46 hw)) (mvT hZ (tw_47 hw)) (notFace_of_selects (args := #[]) (mvT hZ (tw_49 hw))) (mvT hZ (tw_49 hw)) (mvT hZ (tw_48 hw)) (by decide) (backOf (W := 0) (rm6_46 l Z a0 hw [] b57 p1 p2 a_FAILED p3 T4.heap n0 (Nat.le_trans Z0 KK4.1) o4_1 o4_2 o4_7 o4_8 f4 u6 o4_4 o4_6 o4_9) hZ (tw_50 hw) (tw_5 hw) (by decide) (by decide)) q7a q7c (g := (mkF m 86 #[.val (.int p0), .val (.int p1), .val (.int p2), .val (.int p3), .val (.int 1), .val (.ref a_RUNNING), .val (.int 0), .val (.ref b56), .val (.ref b57), .unset] [.null, (.ref b57)])) rfl (by rw [hml]; rfl) (Steps.refl _) (argsL := [.null]) (rest := []) (lenOf pd_4 rfl) rfl (by show 2 * 0 + _ ≤ _; exact Nat.le_of_eq rfl) (hb hby at_86) (fun _ _ => ⟨rfl, rfl, (by decide : 2 + 1 ≤ _), (by decide : 18 + 9 ≤ _)⟩)
  dsimp only [Pt.U, Pt.locs, Pt.cells, Pt.slots] at X7 l7 y7 z7 st7 hQ7
  subst l7 y7 z7
  obtain ⟨b58, rfl, Nq7, K7, le_b58, o7_0, o7_1, o7_2, o7_3, o7_4, o7_5, o7_6, o7_7, o7_8, o7_9⟩ := hQ7
  have N7 := Fr.app N4 Nq7
  have sz_b58 : h0.size ≤ b58 := Nat.le_trans KK4.1 le_b58
  have g_b58 : n0 ≤ b58 := Nat.le_trans Z0 sz_b58
  have KK7 : Keep h0 T7.heap [] := KK4.trans K7 (fun x hx => nomatch hx)
  -- pc 93: com/example/corestone/corestone/BulkRequest$Status.ended
  have u8 : S_2 Z T2.heap (.ref a_COMPLETED) := own_sta_keep f6 K2 (fun _ q => nomatch q)
  have u9 : S_2 Z T4.heap (.ref a_COMPLETED) := own_sta_keep u8 K4 (fun _ q => nomatch q)
  have u10 : S_2 Z T7.heap (.ref a_COMPLETED) := own_sta_keep u9 K7 (fun _ q => nomatch q)
  have u11 : S_3 Z T7.heap (.ref a_FAILED) := own_sta_keep u6 K7 (fun _ q => nomatch q)
  have u13 : E_0 Z T2.heap a_RUNNING := Exa.keep f9 K2
  have u14 : E_0 Z T4.heap a_RUNNING := Exa.keep u13 K4
  have u15 : E_0 Z T7.heap a_RUNNING := Exa.keep u14 K7
  obtain ⟨cq12, kq12, q12a, q12b, q12c⟩ := isOf hZ rfl u15
  obtain ⟨_, _, ⟨T12, L12, k12, n12⟩, -, X12, ⟨Lc12, hQ12, l12, y12, z12⟩, st12⟩ := X7.virtualBack hx (y := M_5) (z := M_5) hown (mvT hZ (tw_53 hw)) (mvT hZ (tw_54 hw)) (notFace_of_selects (args := #[]) (mvT hZ (tw_56 hw))) (mvT hZ (tw_56 hw)) (mvT hZ (tw_55 hw)) (by decide) (backOf (W := 0) (rm7_37 l Z a0 hw [] a_RUNNING a_COMPLETED a_FAILED T7.heap n0 (Nat.le_trans Z0 KK7.1) u10 f7 u11 f8) hZ (tw_57 hw) (tw_1 hw) (by decide) (by decide)) q12a q12c (g := (mkF m 93 #[.val (.int p0), .val (.int p1), .val (.int p2), .val (.int p3), .val (.int 1), .val (.ref a_RUNNING), .val (.int 0), .val (.ref b56), .val (.ref b57), .val (.ref b58)] [(.ref a_RUNNING)])) rfl (by rw [hml]; rfl) (Steps.refl _) (argsL := []) (rest := []) (lenOf pd_5 rfl) rfl (by show 2 * 0 + _ ≤ _; exact Nat.le_of_eq rfl) (hb hby at_93) (fun _ _ => ⟨rfl, rfl, (by decide : 3 + 0 ≤ _), (by decide : 27 + 0 ≤ _)⟩)
  dsimp only [Pt.U, Pt.locs, Pt.cells, Pt.slots] at X12 l12 y12 z12 st12 hQ12
  subst l12 y12 z12
  obtain ⟨rfl, Nq12, e12⟩ := hQ12
  have N12 := Fr.app N7 Nq12
  -- pc 103: com/example/corestone/corestone/BulkRequest.status
  have u16 : F_3 Z T4.heap b56 (.ref a_QUEUED) := Fld.keep o2_3 K4 List.not_mem_nil
  have u17 : F_3 Z T7.heap b56 (.ref a_QUEUED) := Fld.keep u16 K7 List.not_mem_nil
  have u19 : E_1 Z T4.heap b56 := Exa.keep o2_0 K4
  have u20 : E_1 Z T7.heap b56 := Exa.keep u19 K7
  obtain ⟨cq18, kq18, q18a, q18b, q18c⟩ := isOf hZ e12 u20
  obtain ⟨_, _, ⟨T18, L18, k18, n18⟩, -, X18, ⟨Lc18, hQ18, l18, y18, z18⟩, st18⟩ := X12.virtualBack hx (y := M_6) (z := M_6) hown (mvT hZ (tw_61 hw)) (mvT hZ (tw_62 hw)) (notFace_of_selects (args := #[]) (mvT hZ (tw_64 hw))) (mvT hZ (tw_64 hw)) (mvT hZ (tw_63 hw)) (by decide) (backOf (W := 0) (rm8_35 l Z a0 hw [] b56 a_QUEUED T7.heap n0 (Nat.le_trans Z0 KK7.1) u17) hZ (tw_65 hw) (tw_5 hw) (by decide) (by decide)) q18a q18c (g := (mkF m 103 #[.val (.int p0), .val (.int p1), .val (.int p2), .val (.int p3), .val (.int 1), .val (.ref a_RUNNING), .val (.int 0), .val (.ref b56), .val (.ref b57), .val (.ref b58)] [(.ref b56)])) rfl (by rw [hml]; rfl) (Steps.refl _) (argsL := []) (rest := []) (lenOf pd_6 rfl) rfl (by show 2 * 0 + _ ≤ _; exact Nat.le_of_eq rfl) (hb hby at_103) (fun _ _ => ⟨rfl, e12, (by decide : 3 + 0 ≤ _), (by decide : 27 + 0 ≤ _)⟩)
  dsimp only [Pt.U, Pt.locs, Pt.cells, Pt.slots] at X18 l18 y18 z18 st18 hQ18
  subst l18 y18 z18
  obtain ⟨rfl, Nq18, e18⟩ := hQ18
  have N18 := Fr.app N12 Nq18
  -- pc 106: com/example/corestone/corestone/BulkRequest$Status.ended
  have u22 : E_0 Z T2.heap a_QUEUED := Exa.keep f12 K2
  have u23 : E_0 Z T4.heap a_QUEUED := Exa.keep u22 K4
  have u24 : E_0 Z T7.heap a_QUEUED := Exa.keep u23 K7
  obtain ⟨cq21, kq21, q21a, q21b, q21c⟩ := isOf hZ e18 u24
  obtain ⟨_, _, ⟨T21, L21, k21, n21⟩, -, X21, ⟨Lc21, hQ21, l21, y21, z21⟩, st21⟩ := X18.virtualBack hx (y := M_5) (z := M_5) hown (mvT hZ (tw_53 hw)) (mvT hZ (tw_54 hw)) (notFace_of_selects (args := #[]) (mvT hZ (tw_56 hw))) (mvT hZ (tw_56 hw)) (mvT hZ (tw_55 hw)) (by decide) (backOf (W := 0) (rm7_34 l Z a0 hw [] a_QUEUED a_COMPLETED a_FAILED T7.heap n0 (Nat.le_trans Z0 KK7.1) u10 f10 u11 f11) hZ (tw_57 hw) (tw_1 hw) (by decide) (by decide)) q21a q21c (g := (mkF m 106 #[.val (.int p0), .val (.int p1), .val (.int p2), .val (.int p3), .val (.int 1), .val (.ref a_RUNNING), .val (.int 0), .val (.ref b56), .val (.ref b57), .val (.ref b58)] [(.ref a_QUEUED)])) rfl (by rw [hml]; rfl) (Steps.refl _) (argsL := []) (rest := []) (lenOf pd_5 rfl) rfl (by show 2 * 0 + _ ≤ _; exact Nat.le_of_eq rfl) (hb hby at_106) (fun _ _ => ⟨rfl, e18, (by decide : 3 + 0 ≤ _), (by decide : 27 + 0 ≤ _)⟩)
  dsimp only [Pt.U, Pt.locs, Pt.cells, Pt.slots] at X21 l21 y21 z21 st21 hQ21
  subst l21 y21 z21
  obtain ⟨rfl, Nq21, e21⟩ := hQ21
  have N21 := Fr.app N18 Nq21
  -- pc 114: com/example/corestone/corestone/BulkRequest.status
  have u25 : F_3 Z T7.heap b57 (.ref a_RUNNING) := Fld.keep o4_3 K7 List.not_mem_nil
  have u27 : E_1 Z T7.heap b57 := Exa.keep o4_0 K7
  obtain ⟨cq26, kq26, q26a, q26b, q26c⟩ := isOf hZ e21 u27
  obtain ⟨_, _, ⟨T26, L26, k26, n26⟩, -, X26, ⟨Lc26, hQ26, l26, y26, z26⟩, st26⟩ := X21.virtualBack hx (y := M_6) (z := M_6) hown (mvT hZ (tw_61 hw)) (mvT hZ (tw_62 hw)) (notFace_of_selects (args := #[]) (mvT hZ (tw_64 hw))) (mvT hZ (tw_64 hw)) (mvT hZ (tw_63 hw)) (by decide) (backOf (W := 0) (rm8_36 l Z a0 hw [] b57 a_RUNNING T7.heap n0 (Nat.le_trans Z0 KK7.1) u25) hZ (tw_65 hw) (tw_5 hw) (by decide) (by decide)) q26a q26c (g := (mkF m 114 #[.val (.int p0), .val (.int p1), .val (.int p2), .val (.int p3), .val (.int 1), .val (.ref a_RUNNING), .val (.int 0), .val (.ref b56), .val (.ref b57), .val (.ref b58)] [(.ref b57)])) rfl (by rw [hml]; rfl) (Steps.refl _) (argsL := []) (rest := []) (lenOf pd_6 rfl) rfl (by show 2 * 0 + _ ≤ _; exact Nat.le_of_eq rfl) (hb hby at_114) (fun _ _ => ⟨rfl, e21, (by decide : 3 + 0 ≤ _), (by decide : 27 + 0 ≤ _)⟩)
  dsimp only [Pt.U, Pt.locs, Pt.cells, Pt.slots] at X26 l26 y26 z26 st26 hQ26
  subst l26 y26 z26
  obtain ⟨rfl, Nq26, e26⟩ := hQ26
  have N26 := Fr.app N21 Nq26
  -- pc 117: com/example/corestone/corestone/BulkRequest$Status.ended
  obtain ⟨cq28, kq28, q28a, q28b, q28c⟩ := isOf hZ e26 u15
  obtain ⟨_, _, ⟨T28, L28, k28, n28⟩, -, X28, ⟨Lc28, hQ28, l28, y28, z28⟩, st28⟩ := X26.virtualBack hx (y := M_5) (z := M_5) hown (mvT hZ (tw_53 hw)) (mvT hZ (tw_54 hw)) (notFace_of_selects (args := #[]) (mvT hZ (tw_56 hw))) (mvT hZ (tw_56 hw)) (mvT hZ (tw_55 hw)) (by decide) (backOf (W := 0) (rm7_37 l Z a0 hw [] a_RUNNING a_COMPLETED a_FAILED T7.heap n0 (Nat.le_trans Z0 KK7.1) u10 f7 u11 f8) hZ (tw_57 hw) (tw_1 hw) (by decide) (by decide)) q28a q28c (g := (mkF m 117 #[.val (.int p0), .val (.int p1), .val (.int p2), .val (.int p3), .val (.int 1), .val (.ref a_RUNNING), .val (.int 0), .val (.ref b56), .val (.ref b57), .val (.ref b58)] [(.ref a_RUNNING)])) rfl (by rw [hml]; rfl) (Steps.refl _) (argsL := []) (rest := []) (lenOf pd_5 rfl) rfl (by show 2 * 0 + _ ≤ _; exact Nat.le_of_eq rfl) (hb hby at_117) (fun _ _ => ⟨rfl, e26, (by decide : 3 + 0 ≤ _), (by decide : 27 + 0 ≤ _)⟩)
  dsimp only [Pt.U, Pt.locs, Pt.cells, Pt.slots] at X28 l28 y28 z28 st28 hQ28
  subst l28 y28 z28
  obtain ⟨rfl, Nq28, e28⟩ := hQ28
  have N28 := Fr.app N26 Nq28
  -- pc 125: com/example/corestone/corestone/BulkRequest.status
  obtain ⟨cq29, kq29, q29a, q29b, q29c⟩ := isOf hZ e28 o7_0
  obtain ⟨_, _, ⟨T29, L29, k29, n29⟩, -, X29, ⟨Lc29, hQ29, l29, y29, z29⟩, st29⟩ := X28.virtualBack hx (y := M_6) (z := M_6) hown (mvT hZ (tw_61 hw)) (mvT hZ (tw_62 hw)) (notFace_of_selects (args := #[]) (mvT hZ (tw_64 hw))) (mvT hZ (tw_64 hw)) (mvT hZ (tw_63 hw)) (by decide) (backOf (W := 0) (rm8_49 l Z a0 hw [] b58 a_FAILED T7.heap n0 (Nat.le_trans Z0 KK7.1) o7_3) hZ (tw_65 hw) (tw_5 hw) (by decide) (by decide)) q29a q29c (g := (mkF m 125 #[.val (.int p0), .val (.int p1), .val (.int p2), .val (.int p3), .val (.int 1), .val (.ref a_RUNNING), .val (.int 0), .val (.ref b56), .val (.ref b57), .val (.ref b58)] [(.ref b58)])) rfl (by rw [hml]; rfl) (Steps.refl _) (argsL := []) (rest := []) (lenOf pd_6 rfl) rfl (by show 2 * 0 + _ ≤ _; exact Nat.le_of_eq rfl) (hb hby at_125) (fun _ _ => ⟨rfl, e28, (by decide : 3 + 0 ≤ _), (by decide : 27 + 0 ≤ _)⟩)
  dsimp only [Pt.U, Pt.locs, Pt.cells, Pt.slots] at X29 l29 y29 z29 st29 hQ29
  subst l29 y29 z29
  obtain ⟨rfl, Nq29, e29⟩ := hQ29
  have N29 := Fr.app N28 Nq29
  -- pc 128: com/example/corestone/corestone/BulkRequest$Status.ended
  have u31 : E_0 Z T2.heap a_FAILED := Exa.keep f14 K2
  have u32 : E_0 Z T4.heap a_FAILED := Exa.keep u31 K4
  have u33 : E_0 Z T7.heap a_FAILED := Exa.keep u32 K7
  obtain ⟨cq30, kq30, q30a, q30b, q30c⟩ := isOf hZ e29 u33
  obtain ⟨_, _, ⟨T30, L30, k30, n30⟩, -, X30, ⟨Lc30, hQ30, l30, y30, z30⟩, st30⟩ := X29.virtualBack hx (y := M_5) (z := M_5) hown (mvT hZ (tw_53 hw)) (mvT hZ (tw_54 hw)) (notFace_of_selects (args := #[]) (mvT hZ (tw_56 hw))) (mvT hZ (tw_56 hw)) (mvT hZ (tw_55 hw)) (by decide) (backOf (W := 0) (rm7_50 l Z a0 hw [] a_FAILED a_COMPLETED T7.heap n0 (Nat.le_trans Z0 KK7.1) u10 f13 u11) hZ (tw_57 hw) (tw_1 hw) (by decide) (by decide)) q30a q30c (g := (mkF m 128 #[.val (.int p0), .val (.int p1), .val (.int p2), .val (.int p3), .val (.int 1), .val (.ref a_RUNNING), .val (.int 0), .val (.ref b56), .val (.ref b57), .val (.ref b58)] [(.ref a_FAILED)])) rfl (by rw [hml]; rfl) (Steps.refl _) (argsL := []) (rest := []) (lenOf pd_5 rfl) rfl (by show 2 * 0 + _ ≤ _; exact Nat.le_of_eq rfl) (hb hby at_128) (fun _ _ => ⟨rfl, e29, (by decide : 3 + 0 ≤ _), (by decide : 27 + 0 ≤ _)⟩)
  dsimp only [Pt.U, Pt.locs, Pt.cells, Pt.slots] at X30 l30 y30 z30 st30 hQ30
  subst l30 y30 z30
  obtain ⟨rfl, Nq30, e30⟩ := hQ30
  have N30 := Fr.app N29 Nq30
  obtain ⟨fs, hr, hrun, hended, hW, hsame⟩ := X30.leave (v := (some (.int 1))) (fun h => by rw [Bd.returns] at h; cases h)
  refine ⟨_, _, castTop (ef0_IIII m p0 p1 p2 p3) ?_, hrun, hended, _, _, rfl, ?_, ⟨_, rfl⟩, hW, hsame.mono (by decide) (by decide)⟩
  · show Steps p.tables e below (s₁.setTop (mkF m 0 #[.val (.int p0), .val (.int p1), .val (.int p2), .val (.int p3), .unset, .unset, .unset, .unset, .unset, .unset] [])) _
    refine XS.iloadN X0.here hx rfl (hb hby at_0) rfl ?_
    refine XS.iconst X0.here hx rfl (hb hby at_1) ?_
    show Steps p.tables e below (s₁.setTop (mkF m 2 #[.val (.int p0), .val (.int p1), .val (.int p2), .val (.int p3), .unset, .unset, .unset, .unset, .unset, .unset] [(.int 3), (.int p0)])) _
    refine XS.iand X0.here hx rfl (hb hby at_2) rfl ?_
    show Steps p.tables e below (s₁.setTop (mkF m 3 #[.val (.int p0), .val (.int p1), .val (.int p2), .val (.int p3), .unset, .unset, .unset, .unset, .unset, .unset] [(.int (p0 &&& (3 : Int32)))])) _
    rw [f1]
    refine XS.istore X0.here hx rfl (hb hby at_3) rfl (l' := #[.val (.int p0), .val (.int p1), .val (.int p2), .val (.int p3), .val (.int 1), .unset, .unset, .unset, .unset, .unset]) rfl ?_
    refine XS.iload X0.here hx rfl (hb hby at_5) rfl ?_
    refine XS.ifYes X0.here hx rfl (pc0 := 7) (pc' := 21) rfl (hb hby at_7) rfl (by decide) (by decide) (by decide) ?_
    refine XS.iload X0.here hx rfl (hb hby at_21) rfl ?_
    show Steps p.tables e below (s₁.setTop (mkF m 23 #[.val (.int p0), .val (.int p1), .val (.int p2), .val (.int p3), .val (.int 1), .unset, .unset, .unset, .unset, .unset] [(.int 1)])) _
    refine XS.iconst X0.here hx rfl (hb hby at_23) ?_
    refine XS.icmpNo X0.here hx rfl (hb hby at_24) rfl (by decide) ?_
    show Steps p.tables e below (s₁.setTop (mkF m 27 #[.val (.int p0), .val (.int p1), .val (.int p2), .val (.int p3), .val (.int 1), .unset, .unset, .unset, .unset, .unset] [])) _
    refine st1 _ ?_
    refine XS.astore X1.here hx rfl (hb hby at_30) rfl rfl (l' := #[.val (.int p0), .val (.int p1), .val (.int p2), .val (.int p3), .val (.int 1), .val (.ref a_RUNNING), .unset, .unset, .unset, .unset]) rfl ?_
    refine XS.iconst X1.here hx rfl (hb hby at_32) ?_
    refine XS.istore X1.here hx rfl (hb hby at_33) rfl (l' := #[.val (.int p0), .val (.int p1), .val (.int p2), .val (.int p3), .val (.int 1), .val (.ref a_RUNNING), .val (.int 0), .unset, .unset, .unset]) rfl ?_
    refine XS.goto X1.here hx rfl (pc0 := 35) (pc' := 63) rfl (hb hby at_35) (by decide) (by decide) ?_
    show Steps p.tables e below (T1.setTop (mkF m 63 #[.val (.int p0), .val (.int p1), .val (.int p2), .val (.int p3), .val (.int 1), .val (.ref a_RUNNING), .val (.int 0), .unset, .unset, .unset] [])) _
    refine XS.aconstNull X1.here hx rfl (hb hby at_63) ?_
    refine XS.aconstNull X1.here hx rfl (hb hby at_64) ?_
    refine XS.iconst X1.here hx rfl (hb hby at_65) ?_
    refine XS.aconstNull X1.here hx rfl (hb hby at_66) ?_
    show Steps p.tables e below (T1.setTop (mkF m 67 #[.val (.int p0), .val (.int p1), .val (.int p2), .val (.int p3), .val (.int 1), .val (.ref a_RUNNING), .val (.int 0), .unset, .unset, .unset] [.null, (.int 0), .null, .null])) _
    refine st2 _ ?_
    refine XS.astore X2.here hx rfl (hb hby at_70) rfl rfl (l' := #[.val (.int p0), .val (.int p1), .val (.int p2), .val (.int p3), .val (.int 1), .val (.ref a_RUNNING), .val (.int 0), .val (.ref b56), .unset, .unset]) rfl ?_
    refine XS.aload X2.here hx rfl (hb hby at_72) rfl rfl ?_
    refine XS.iloadN X2.here hx rfl (hb hby at_74) rfl ?_
    refine XS.iloadN X2.here hx rfl (hb hby at_75) rfl ?_
    show Steps p.tables e below (T2.setTop (mkF m 76 #[.val (.int p0), .val (.int p1), .val (.int p2), .val (.int p3), .val (.int 1), .val (.ref a_RUNNING), .val (.int 0), .val (.ref b56), .unset, .unset] [(.int p2), (.int p1), (.ref b56)])) _
    refine XS.iloadN X2.here hx rfl (hb hby at_76) rfl ?_
    refine XS.aconstNull X2.here hx rfl (hb hby at_77) ?_
    show Steps p.tables e below (T2.setTop (mkF m 78 #[.val (.int p0), .val (.int p1), .val (.int p2), .val (.int p3), .val (.int 1), .val (.ref a_RUNNING), .val (.int 0), .val (.ref b56), .unset, .unset] [.null, (.int p3), (.int p2), (.int p1), (.ref b56)])) _
    refine st4.trans ?_
    refine XS.astore X4.here hx rfl (hb hby at_81) rfl rfl (l' := #[.val (.int p0), .val (.int p1), .val (.int p2), .val (.int p3), .val (.int 1), .val (.ref a_RUNNING), .val (.int 0), .val (.ref b56), .val (.ref b57), .unset]) rfl ?_
    refine XS.aload X4.here hx rfl (hb hby at_83) rfl rfl ?_
    refine XS.aconstNull X4.here hx rfl (hb hby at_85) ?_
    show Steps p.tables e below (T4.setTop (mkF m 86 #[.val (.int p0), .val (.int p1), .val (.int p2), .val (.int p3), .val (.int 1), .val (.ref a_RUNNING), .val (.int 0), .val (.ref b56), .val (.ref b57), .unset] [.null, (.ref b57)])) _
    refine st7.trans ?_
    refine XS.astore X7.here hx rfl (hb hby at_89) rfl rfl (l' := #[.val (.int p0), .val (.int p1), .val (.int p2), .val (.int p3), .val (.int 1), .val (.ref a_RUNNING), .val (.int 0), .val (.ref b56), .val (.ref b57), .val (.ref b58)]) rfl ?_
    refine XS.aload X7.here hx rfl (hb hby at_91) rfl rfl ?_
    show Steps p.tables e below (T7.setTop (mkF m 93 #[.val (.int p0), .val (.int p1), .val (.int p2), .val (.int p3), .val (.int 1), .val (.ref a_RUNNING), .val (.int 0), .val (.ref b56), .val (.ref b57), .val (.ref b58)] [(.ref a_RUNNING)])) _
    refine st12.trans ?_
    refine XS.iload X12.here hx rfl (hb hby at_96) rfl ?_
    refine XS.icmpNo X12.here hx rfl (hb hby at_98) rfl (by decide) ?_
    refine XS.aload X12.here hx rfl (hb hby at_101) rfl rfl ?_
    show Steps p.tables e below (T12.setTop (mkF m 103 #[.val (.int p0), .val (.int p1), .val (.int p2), .val (.int p3), .val (.int 1), .val (.ref a_RUNNING), .val (.int 0), .val (.ref b56), .val (.ref b57), .val (.ref b58)] [(.ref b56)])) _
    refine st18.trans ?_
    show Steps p.tables e below (T18.setTop (mkF m 106 #[.val (.int p0), .val (.int p1), .val (.int p2), .val (.int p3), .val (.int 1), .val (.ref a_RUNNING), .val (.int 0), .val (.ref b56), .val (.ref b57), .val (.ref b58)] [(.ref a_QUEUED)])) _
    refine st21.trans ?_
    refine XS.ifNo X21.here hx rfl (hb hby at_109) rfl (by decide) ?_
    refine XS.aload X21.here hx rfl (hb hby at_112) rfl rfl ?_
    show Steps p.tables e below (T21.setTop (mkF m 114 #[.val (.int p0), .val (.int p1), .val (.int p2), .val (.int p3), .val (.int 1), .val (.ref a_RUNNING), .val (.int 0), .val (.ref b56), .val (.ref b57), .val (.ref b58)] [(.ref b57)])) _
    refine st26.trans ?_
    show Steps p.tables e below (T26.setTop (mkF m 117 #[.val (.int p0), .val (.int p1), .val (.int p2), .val (.int p3), .val (.int 1), .val (.ref a_RUNNING), .val (.int 0), .val (.ref b56), .val (.ref b57), .val (.ref b58)] [(.ref a_RUNNING)])) _
    refine st28.trans ?_
    refine XS.ifNo X28.here hx rfl (hb hby at_120) rfl (by decide) ?_
    refine XS.aload X28.here hx rfl (hb hby at_123) rfl rfl ?_
    show Steps p.tables e below (T28.setTop (mkF m 125 #[.val (.int p0), .val (.int p1), .val (.int p2), .val (.int p3), .val (.int 1), .val (.ref a_RUNNING), .val (.int 0), .val (.ref b56), .val (.ref b57), .val (.ref b58)] [(.ref b58)])) _
    refine st29.trans ?_
    show Steps p.tables e below (T29.setTop (mkF m 128 #[.val (.int p0), .val (.int p1), .val (.int p2), .val (.int p3), .val (.int 1), .val (.ref a_RUNNING), .val (.int 0), .val (.ref b56), .val (.ref b57), .val (.ref b58)] [(.ref a_FAILED)])) _
    refine st30.trans ?_
    refine XS.ifNo X30.here hx rfl (hb hby at_131) rfl (by decide) ?_
    refine XS.iconst X30.here hx rfl (hb hby at_134) ?_
    refine XS.goto X30.here hx rfl (pc0 := 135) (pc' := 139) rfl (hb hby at_135) (by decide) (by decide) ?_
    show Steps p.tables e below (T30.setTop (mkF m 139 #[.val (.int p0), .val (.int p1), .val (.int p2), .val (.int p3), .val (.int 1), .val (.ref a_RUNNING), .val (.int 0), .val (.ref b56), .val (.ref b57), .val (.ref b58)] [(.int 1)])) _
    exact retN X30 hx (t := .boolean) Bd.returns (by simp) (hb hby at_139) hr
  · show QT n0 _ T30.heap _
    rw [e30]
    exact ⟨rfl, N30⟩
theorem tw_67 {a0 : Array Value} {Z : State} (hw : ∀ d ∈ tables_1, d.before a0 Z = true) : (Jvm.Cond.fieldLink "com/example/corestone/corestone/StatusEndedPinLaw" (16 : Nat) "com/example/corestone/corestone/BulkRequest$Status" "COMPLETED" "Lcom/example/corestone/corestone/BulkRequest$Status;").before a0 Z = true := hw _ (List.mem_of_getElem? (i := 67) rfl)
set_option maxRecDepth 65536 in
set_option maxHeartbeats 40000000 in
theorem rm0_63 (l : Launch) (Z : State) (a0 : Array Value) (hw : ∀ d ∈ tables_1, d.before a0 Z = true) (ws : List Jvm.Cond) (p0 : Int32) (p1 : Int32) (p2 : Int32) (p3 : Int32) (a_COMPLETED : Addr) (a_QUEUED : Addr) (a_RUNNING : Addr) (a_FAILED : Addr) (h0 : Heap) (n0 : Nat) (Z0 : n0 ≤ h0.size) (f1 : (p0 &&& (3 : Int32)) = (2 : Int32)) (f2 : S_2 Z h0 (.ref a_COMPLETED)) (f3 : S_0 Z h0 (.ref a_QUEUED)) (f4 : S_1 Z h0 (.ref a_RUNNING)) (f5 : (0 : Int32) < (((0 : Int32) + p1) + ((0 : Int32) + p2))) (f6 : E_0 Z h0 a_COMPLETED) (f7 : a_QUEUED ≠ a_COMPLETED) (f8 : S_3 Z h0 (.ref a_FAILED)) (f9 : a_QUEUED ≠ a_FAILED) (f10 : E_0 Z h0 a_QUEUED) (f11 : a_COMPLETED ≠ a_RUNNING) (f12 : a_FAILED ≠ a_RUNNING) (f13 : E_0 Z h0 a_RUNNING) :
    MetFree l x (head1 (Jvm.Cond.code x code maxLocals ret :: ws) room_1) (fun a U => a = #[(.int p0), (.int p1), (.int p2), (.int p3)] ∧ Z.Warmed39 U.vm ∧ U.heap = h0) (fun _ _ _ _ _ => True) (fun _ U o U' => ∃ v L, o = .returned v ∧ QT n0 v U'.heap L ∧ FrameEnd U o U' L room_1.cells room_1.slots) := by
  refine MetFree.of_bodySF (plainFor_of_name pn_com_example_corestone_corestone_StatusEndedPinLaw) hisR ?_
  intro p e s m args below meth c s₁ Bd hml0 hP hK
  obtain ⟨rfl, hZ, hh⟩ := hP
  have hx := Bd.exec
  have hby := Bd.bytes
  have hml : c.maxLocals = 10 := hml0
  have hown : s.vm.findClass "com/example/corestone/corestone/StatusEndedPinLaw" = some m.cls := findClass_of_methodNamed Bd.named
  have hnm := (name_of_methodNamed Bd.named Bd.method).1
  have X0 : Stand p l e room_1 s m #[(.int p0), (.int p1), (.int p2), (.int p3)] below meth c s₁ [] 0 0 := Stand.of_body Bd
  have e0 : s₁.heap = h0 := by rw [← hh, Bd.state]; rfl
  have N0 := Fr.nil n0
  obtain ⟨T1, X1, e1, st1⟩ := getS2 X0 hx hZ hown (host := "") (Or.inl (tw_67 hw)) Via.refl e0 f2 (g := (mkF m 44 #[.val (.int p0), .val (.int p1), .val (.int p2), .val (.int p3), .val (.int 2), .unset, .unset, .unset, .unset, .unset] [])) rfl (hb hby at_44)
  -- pc 67: com/example/corestone/corestone/BulkRequest.queued
  obtain ⟨_, _, ⟨T2, L2, k2, n2⟩, -, X2, ⟨Lc2, hQ2, l2, y2, z2⟩, st2⟩ := Jvm.LawKit.callS X1 hx (y := M_2) hown (mvT hZ (tw_3 hw)) (mvT hZ (tw_4 hw)) (mvT hZ (tw_5 hw)) (mvT hZ (tw_6 hw)) (by decide) (backOf (W := 0) (rm1_19 l Z a0 hw [] a_QUEUED h0 n0 Z0 f3) hZ (tw_6 hw) (tw_5 hw) (by decide) (by decide)) (g := (mkF m 67 #[.val (.int p0), .val (.int p1), .val (.int p2), .val (.int p3), .val (.int 2), .val (.ref a_COMPLETED), .val (.int 1), .unset, .unset, .unset] [.null, (.int 0), .null, .null])) rfl (by rw [hml]; rfl) (argsL := [.null, .null, (.int 0), .null]) (rest := []) (lenOf pd_2 rfl) rfl (by show 2 * 0 + _ ≤ _; exact Nat.le_of_eq rfl) (hb hby at_67) (fun _ _ => ⟨rfl, e1, (by decide : 0 + 1 ≤ _), (by decide : 0 + 9 ≤ _)⟩)
  dsimp only [Pt.U, Pt.locs, Pt.cells, Pt.slots] at X2 l2 y2 z2 st2 hQ2
  subst l2 y2 z2
  obtain ⟨b60, rfl, Nq2, K2, le_b60, o2_0, o2_1, o2_2, o2_3, o2_4, o2_5, o2_6, o2_7, o2_8, o2_9⟩ := hQ2
  have N2 := Fr.app N0 Nq2
  have sz_b60 : h0.size ≤ b60 := Nat.le_trans (Nat.le_refl _) le_b60
  have g_b60 : n0 ≤ b60 := Nat.le_trans Z0 sz_b60
  have KK2 : Keep h0 T2.heap [] := (Keep.refl h0 []).trans K2 (fun x hx => nomatch hx)
  -- pc 78: com/example/corestone/corestone/BulkRequest.running
  have u3 : S_1 Z T2.heap (.ref a_RUNNING) := own_sta_keep f4 K2 (fun _ q => nomatch q)
  obtain ⟨cq4, kq4, q4a, q4b, q4c⟩ := isOf hZ rfl o2_0
  obtain ⟨_, _, ⟨T4, L4, k4, n4⟩, -, X4, ⟨Lc4, hQ4, l4, y4, z4⟩, st4⟩ := X2.virtualBack hx (y := M_3) (z := M_3) hown (mvT hZ (tw_39 hw)) (mvT hZ (tw_40 hw)) (notFace_of_selects (args := #[]) (mvT hZ (tw_42 hw))) (mvT hZ (tw_42 hw)) (mvT hZ (tw_41 hw)) (by decide) (backOf (W := 0) (rm5_25 l Z a0 hw [] b60 p1 p2 p3 a_RUNNING T2.heap n0 (Nat.le_trans Z0 KK2.1) o2_1 o2_2 u3 o2_4 o2_6 o2_7 o2_8 o2_9) hZ (tw_43 hw) (tw_5 hw) (by decide) (by decide)) q4a q4c (g := (mkF m 78 #[.val (.int p0), .val (.int p1), .val (.int p2), .val (.int p3), .val (.int 2), .val (.ref a_COMPLETED), .val (.int 1), .val (.ref b60), .unset, .unset] [.null, (.int p3), (.int p2), (.int p1), (.ref b60)])) rfl (by rw [hml]; rfl) (Steps.refl _) (argsL := [(.int p1), (.int p2), (.int p3), .null]) (rest := []) (lenOf pd_3 rfl) rfl (by show 2 * 0 + _ ≤ _; exact Nat.le_of_eq rfl) (hb hby at_78) (fun _ _ => ⟨rfl, rfl, (by decide : 1 + 1 ≤ _), (by decide : 9 + 9 ≤ _)⟩)
  dsimp only [Pt.U, Pt.locs, Pt.cells, Pt.slots] at X4 l4 y4 z4 st4 hQ4
  subst l4 y4 z4
  obtain ⟨b61, rfl, Nq4, K4, le_b61, o4_0, o4_1, o4_2, o4_3, o4_4, o4_5, o4_6, o4_7, o4_8, o4_9⟩ := hQ4
  have N4 := Fr.app N2 Nq4
  have sz_b61 : h0.size ≤ b61 := Nat.le_trans KK2.1 le_b61
  have g_b61 : n0 ≤ b61 := Nat.le_trans Z0 sz_b61
  have KK4 : Keep h0 T4.heap [] := KK2.trans K4 (fun x hx => nomatch hx)
  -- pc 86: com/example/corestone/corestone/BulkRequest.ended
  have u5 : S_2 Z T2.heap (.ref a_COMPLETED) := own_sta_keep f2 K2 (fun _ q => nomatch q)
  have u6 : S_2 Z T4.heap (.ref a_COMPLETED) := own_sta_keep u5 K4 (fun _ q => nomatch q)
  obtain ⟨cq7, kq7, q7a, q7b, q7c⟩ := isOf hZ rfl o4_0
  obtain ⟨_, _, ⟨T7, L7, k7, n7⟩, -, X7, ⟨Lc7, hQ7, l7, y7, z7⟩, st7⟩ := X4.virtualBack hx (y := M_4) (z := M_4) hown (mvT hZ (tw_46 hw)) (mvT hZ (tw_47 hw)) (notFace_of_selects (args := #[]) (mvT hZ (tw_49 hw))) (mvT hZ (tw_49 hw)) (mvT hZ (tw_48 hw)) (by decide) (backOf (W := 0) (rm6_31 l Z a0 hw [] b61 p1 p2 a_COMPLETED p3 T4.heap n0 (Nat.le_trans Z0 KK4.1) o4_1 o4_2 o4_7 o4_8 f5 u6 o4_4 o4_6 o4_9) hZ (tw_50 hw) (tw_5 hw) (by decide) (by decide)) q7a q7c (g := (mkF m 86 #[.val (.int p0), .val (.int p1), .val (.int p2), .val (.int p3), .val (.int 2), .val (.ref a_COMPLETED), .val (.int 1), .val (.ref b60), .val (.ref b61), .unset] [.null, (.ref b61)])) rfl (by rw [hml]; rfl) (Steps.refl _) (argsL := [.null]) (rest := []) (lenOf pd_4 rfl) rfl (by show 2 * 0 + _ ≤ _; exact Nat.le_of_eq rfl) (hb hby at_86) (fun _ _ => ⟨rfl, rfl, (by decide : 2 + 1 ≤ _), (by decide : 18 + 9 ≤ _)⟩)
  dsimp only [Pt.U, Pt.locs, Pt.cells, Pt.slots] at X7 l7 y7 z7 st7 hQ7
  subst l7 y7 z7
  obtain ⟨b62, rfl, Nq7, K7, le_b62, o7_0, o7_1, o7_2, o7_3, o7_4, o7_5, o7_6, o7_7, o7_8, o7_9⟩ := hQ7
  have N7 := Fr.app N4 Nq7
  have sz_b62 : h0.size ≤ b62 := Nat.le_trans KK4.1 le_b62
  have g_b62 : n0 ≤ b62 := Nat.le_trans Z0 sz_b62
  have KK7 : Keep h0 T7.heap [] := KK4.trans K7 (fun x hx => nomatch hx)
  -- pc 93: com/example/corestone/corestone/BulkRequest$Status.ended
  have u8 : S_2 Z T7.heap (.ref a_COMPLETED) := own_sta_keep u6 K7 (fun _ q => nomatch q)
  have u10 : E_0 Z T2.heap a_COMPLETED := Exa.keep f6 K2
  have u11 : E_0 Z T4.heap a_COMPLETED := Exa.keep u10 K4
  have u12 : E_0 Z T7.heap a_COMPLETED := Exa.keep u11 K7
  obtain ⟨cq9, kq9, q9a, q9b, q9c⟩ := isOf hZ rfl u12
  obtain ⟨_, _, ⟨T9, L9, k9, n9⟩, -, X9, ⟨Lc9, hQ9, l9, y9, z9⟩, st9⟩ := X7.virtualBack hx (y := M_5) (z := M_5) hown (mvT hZ (tw_53 hw)) (mvT hZ (tw_54 hw)) (notFace_of_selects (args := #[]) (mvT hZ (tw_56 hw))) (mvT hZ (tw_56 hw)) (mvT hZ (tw_55 hw)) (by decide) (backOf (W := 0) (rm7_39 l Z a0 hw [] a_COMPLETED T7.heap n0 (Nat.le_trans Z0 KK7.1) u8) hZ (tw_57 hw) (tw_1 hw) (by decide) (by decide)) q9a q9c (g := (mkF m 93 #[.val (.int p0), .val (.int p1), .val (.int p2), .val (.int p3), .val (.int 2), .val (.ref a_COMPLETED), .val (.int 1), .val (.ref b60), .val (.ref b61), .val (.ref b62)] [(.ref a_COMPLETED)])) rfl (by rw [hml]; rfl) (Steps.refl _) (argsL := []) (rest := []) (lenOf pd_5 rfl) rfl (by show 2 * 0 + _ ≤ _; exact Nat.le_of_eq rfl) (hb hby at_93) (fun _ _ => ⟨rfl, rfl, (by decide : 3 + 0 ≤ _), (by decide : 27 + 0 ≤ _)⟩)
  dsimp only [Pt.U, Pt.locs, Pt.cells, Pt.slots] at X9 l9 y9 z9 st9 hQ9
  subst l9 y9 z9
  obtain ⟨rfl, Nq9, e9⟩ := hQ9
  have N9 := Fr.app N7 Nq9
  -- pc 103: com/example/corestone/corestone/BulkRequest.status
  have u13 : F_3 Z T4.heap b60 (.ref a_QUEUED) := Fld.keep o2_3 K4 List.not_mem_nil
  have u14 : F_3 Z T7.heap b60 (.ref a_QUEUED) := Fld.keep u13 K7 List.not_mem_nil
  have u16 : E_1 Z T4.heap b60 := Exa.keep o2_0 K4
  have u17 : E_1 Z T7.heap b60 := Exa.keep u16 K7
  obtain ⟨cq15, kq15, q15a, q15b, q15c⟩ := isOf hZ e9 u17
  obtain ⟨_, _, ⟨T15, L15, k15, n15⟩, -, X15, ⟨Lc15, hQ15, l15, y15, z15⟩, st15⟩ := X9.virtualBack hx (y := M_6) (z := M_6) hown (mvT hZ (tw_61 hw)) (mvT hZ (tw_62 hw)) (notFace_of_selects (args := #[]) (mvT hZ (tw_64 hw))) (mvT hZ (tw_64 hw)) (mvT hZ (tw_63 hw)) (by decide) (backOf (W := 0) (rm8_35 l Z a0 hw [] b60 a_QUEUED T7.heap n0 (Nat.le_trans Z0 KK7.1) u14) hZ (tw_65 hw) (tw_5 hw) (by decide) (by decide)) q15a q15c (g := (mkF m 103 #[.val (.int p0), .val (.int p1), .val (.int p2), .val (.int p3), .val (.int 2), .val (.ref a_COMPLETED), .val (.int 1), .val (.ref b60), .val (.ref b61), .val (.ref b62)] [(.ref b60)])) rfl (by rw [hml]; rfl) (Steps.refl _) (argsL := []) (rest := []) (lenOf pd_6 rfl) rfl (by show 2 * 0 + _ ≤ _; exact Nat.le_of_eq rfl) (hb hby at_103) (fun _ _ => ⟨rfl, e9, (by decide : 3 + 0 ≤ _), (by decide : 27 + 0 ≤ _)⟩)
  dsimp only [Pt.U, Pt.locs, Pt.cells, Pt.slots] at X15 l15 y15 z15 st15 hQ15
  subst l15 y15 z15
  obtain ⟨rfl, Nq15, e15⟩ := hQ15
  have N15 := Fr.app N9 Nq15
  -- pc 106: com/example/corestone/corestone/BulkRequest$Status.ended
  have u18 : S_3 Z T2.heap (.ref a_FAILED) := own_sta_keep f8 K2 (fun _ q => nomatch q)
  have u19 : S_3 Z T4.heap (.ref a_FAILED) := own_sta_keep u18 K4 (fun _ q => nomatch q)
  have u20 : S_3 Z T7.heap (.ref a_FAILED) := own_sta_keep u19 K7 (fun _ q => nomatch q)
  have u22 : E_0 Z T2.heap a_QUEUED := Exa.keep f10 K2
  have u23 : E_0 Z T4.heap a_QUEUED := Exa.keep u22 K4
  have u24 : E_0 Z T7.heap a_QUEUED := Exa.keep u23 K7
  obtain ⟨cq21, kq21, q21a, q21b, q21c⟩ := isOf hZ e15 u24
  obtain ⟨_, _, ⟨T21, L21, k21, n21⟩, -, X21, ⟨Lc21, hQ21, l21, y21, z21⟩, st21⟩ := X15.virtualBack hx (y := M_5) (z := M_5) hown (mvT hZ (tw_53 hw)) (mvT hZ (tw_54 hw)) (notFace_of_selects (args := #[]) (mvT hZ (tw_56 hw))) (mvT hZ (tw_56 hw)) (mvT hZ (tw_55 hw)) (by decide) (backOf (W := 0) (rm7_34 l Z a0 hw [] a_QUEUED a_COMPLETED a_FAILED T7.heap n0 (Nat.le_trans Z0 KK7.1) u8 f7 u20 f9) hZ (tw_57 hw) (tw_1 hw) (by decide) (by decide)) q21a q21c (g := (mkF m 106 #[.val (.int p0), .val (.int p1), .val (.int p2), .val (.int p3), .val (.int 2), .val (.ref a_COMPLETED), .val (.int 1), .val (.ref b60), .val (.ref b61), .val (.ref b62)] [(.ref a_QUEUED)])) rfl (by rw [hml]; rfl) (Steps.refl _) (argsL := []) (rest := []) (lenOf pd_5 rfl) rfl (by show 2 * 0 + _ ≤ _; exact Nat.le_of_eq rfl) (hb hby at_106) (fun _ _ => ⟨rfl, e15, (by decide : 3 + 0 ≤ _), (by decide : 27 + 0 ≤ _)⟩)
  dsimp only [Pt.U, Pt.locs, Pt.cells, Pt.slots] at X21 l21 y21 z21 st21 hQ21
  subst l21 y21 z21
  obtain ⟨rfl, Nq21, e21⟩ := hQ21
  have N21 := Fr.app N15 Nq21
  -- pc 114: com/example/corestone/corestone/BulkRequest.status
  have u25 : F_3 Z T7.heap b61 (.ref a_RUNNING) := Fld.keep o4_3 K7 List.not_mem_nil
  have u27 : E_1 Z T7.heap b61 := Exa.keep o4_0 K7
  obtain ⟨cq26, kq26, q26a, q26b, q26c⟩ := isOf hZ e21 u27
  obtain ⟨_, _, ⟨T26, L26, k26, n26⟩, -, X26, ⟨Lc26, hQ26, l26, y26, z26⟩, st26⟩ := X21.virtualBack hx (y := M_6) (z := M_6) hown (mvT hZ (tw_61 hw)) (mvT hZ (tw_62 hw)) (notFace_of_selects (args := #[]) (mvT hZ (tw_64 hw))) (mvT hZ (tw_64 hw)) (mvT hZ (tw_63 hw)) (by decide) (backOf (W := 0) (rm8_36 l Z a0 hw [] b61 a_RUNNING T7.heap n0 (Nat.le_trans Z0 KK7.1) u25) hZ (tw_65 hw) (tw_5 hw) (by decide) (by decide)) q26a q26c (g := (mkF m 114 #[.val (.int p0), .val (.int p1), .val (.int p2), .val (.int p3), .val (.int 2), .val (.ref a_COMPLETED), .val (.int 1), .val (.ref b60), .val (.ref b61), .val (.ref b62)] [(.ref b61)])) rfl (by rw [hml]; rfl) (Steps.refl _) (argsL := []) (rest := []) (lenOf pd_6 rfl) rfl (by show 2 * 0 + _ ≤ _; exact Nat.le_of_eq rfl) (hb hby at_114) (fun _ _ => ⟨rfl, e21, (by decide : 3 + 0 ≤ _), (by decide : 27 + 0 ≤ _)⟩)
  dsimp only [Pt.U, Pt.locs, Pt.cells, Pt.slots] at X26 l26 y26 z26 st26 hQ26
  subst l26 y26 z26
  obtain ⟨rfl, Nq26, e26⟩ := hQ26
  have N26 := Fr.app N21 Nq26
  -- pc 117: com/example/corestone/corestone/BulkRequest$Status.ended
  have u29 : E_0 Z T2.heap a_RUNNING := Exa.keep f13 K2
  have u30 : E_0 Z T4.heap a_RUNNING := Exa.keep u29 K4
  have u31 : E_0 Z T7.heap a_RUNNING := Exa.keep u30 K7
  obtain ⟨cq28, kq28, q28a, q28b, q28c⟩ := isOf hZ e26 u31
  obtain ⟨_, _, ⟨T28, L28, k28, n28⟩, -, X28, ⟨Lc28, hQ28, l28, y28, z28⟩, st28⟩ := X26.virtualBack hx (y := M_5) (z := M_5) hown (mvT hZ (tw_53 hw)) (mvT hZ (tw_54 hw)) (notFace_of_selects (args := #[]) (mvT hZ (tw_56 hw))) (mvT hZ (tw_56 hw)) (mvT hZ (tw_55 hw)) (by decide) (backOf (W := 0) (rm7_37 l Z a0 hw [] a_RUNNING a_COMPLETED a_FAILED T7.heap n0 (Nat.le_trans Z0 KK7.1) u8 f11 u20 f12) hZ (tw_57 hw) (tw_1 hw) (by decide) (by decide)) q28a q28c (g := (mkF m 117 #[.val (.int p0), .val (.int p1), .val (.int p2), .val (.int p3), .val (.int 2), .val (.ref a_COMPLETED), .val (.int 1), .val (.ref b60), .val (.ref b61), .val (.ref b62)] [(.ref a_RUNNING)])) rfl (by rw [hml]; rfl) (Steps.refl _) (argsL := []) (rest := []) (lenOf pd_5 rfl) rfl (by show 2 * 0 + _ ≤ _; exact Nat.le_of_eq rfl) (hb hby at_117) (fun _ _ => ⟨rfl, e26, (by decide : 3 + 0 ≤ _), (by decide : 27 + 0 ≤ _)⟩)
  dsimp only [Pt.U, Pt.locs, Pt.cells, Pt.slots] at X28 l28 y28 z28 st28 hQ28
  subst l28 y28 z28
  obtain ⟨rfl, Nq28, e28⟩ := hQ28
  have N28 := Fr.app N26 Nq28
  -- pc 125: com/example/corestone/corestone/BulkRequest.status
  obtain ⟨cq32, kq32, q32a, q32b, q32c⟩ := isOf hZ e28 o7_0
  obtain ⟨_, _, ⟨T32, L32, k32, n32⟩, -, X32, ⟨Lc32, hQ32, l32, y32, z32⟩, st32⟩ := X28.virtualBack hx (y := M_6) (z := M_6) hown (mvT hZ (tw_61 hw)) (mvT hZ (tw_62 hw)) (notFace_of_selects (args := #[]) (mvT hZ (tw_64 hw))) (mvT hZ (tw_64 hw)) (mvT hZ (tw_63 hw)) (by decide) (backOf (W := 0) (rm8_38 l Z a0 hw [] b62 a_COMPLETED T7.heap n0 (Nat.le_trans Z0 KK7.1) o7_3) hZ (tw_65 hw) (tw_5 hw) (by decide) (by decide)) q32a q32c (g := (mkF m 125 #[.val (.int p0), .val (.int p1), .val (.int p2), .val (.int p3), .val (.int 2), .val (.ref a_COMPLETED), .val (.int 1), .val (.ref b60), .val (.ref b61), .val (.ref b62)] [(.ref b62)])) rfl (by rw [hml]; rfl) (Steps.refl _) (argsL := []) (rest := []) (lenOf pd_6 rfl) rfl (by show 2 * 0 + _ ≤ _; exact Nat.le_of_eq rfl) (hb hby at_125) (fun _ _ => ⟨rfl, e28, (by decide : 3 + 0 ≤ _), (by decide : 27 + 0 ≤ _)⟩)
  dsimp only [Pt.U, Pt.locs, Pt.cells, Pt.slots] at X32 l32 y32 z32 st32 hQ32
  subst l32 y32 z32
  obtain ⟨rfl, Nq32, e32⟩ := hQ32
  have N32 := Fr.app N28 Nq32
  -- pc 128: com/example/corestone/corestone/BulkRequest$Status.ended
  obtain ⟨cq33, kq33, q33a, q33b, q33c⟩ := isOf hZ e32 u12
  obtain ⟨_, _, ⟨T33, L33, k33, n33⟩, -, X33, ⟨Lc33, hQ33, l33, y33, z33⟩, st33⟩ := X32.virtualBack hx (y := M_5) (z := M_5) hown (mvT hZ (tw_53 hw)) (mvT hZ (tw_54 hw)) (notFace_of_selects (args := #[]) (mvT hZ (tw_56 hw))) (mvT hZ (tw_56 hw)) (mvT hZ (tw_55 hw)) (by decide) (backOf (W := 0) (rm7_39 l Z a0 hw [] a_COMPLETED T7.heap n0 (Nat.le_trans Z0 KK7.1) u8) hZ (tw_57 hw) (tw_1 hw) (by decide) (by decide)) q33a q33c (g := (mkF m 128 #[.val (.int p0), .val (.int p1), .val (.int p2), .val (.int p3), .val (.int 2), .val (.ref a_COMPLETED), .val (.int 1), .val (.ref b60), .val (.ref b61), .val (.ref b62)] [(.ref a_COMPLETED)])) rfl (by rw [hml]; rfl) (Steps.refl _) (argsL := []) (rest := []) (lenOf pd_5 rfl) rfl (by show 2 * 0 + _ ≤ _; exact Nat.le_of_eq rfl) (hb hby at_128) (fun _ _ => ⟨rfl, e32, (by decide : 3 + 0 ≤ _), (by decide : 27 + 0 ≤ _)⟩)
  dsimp only [Pt.U, Pt.locs, Pt.cells, Pt.slots] at X33 l33 y33 z33 st33 hQ33
  subst l33 y33 z33
  obtain ⟨rfl, Nq33, e33⟩ := hQ33
  have N33 := Fr.app N32 Nq33
  obtain ⟨fs, hr, hrun, hended, hW, hsame⟩ := X33.leave (v := (some (.int 1))) (fun h => by rw [Bd.returns] at h; cases h)
  refine ⟨_, _, castTop (ef0_IIII m p0 p1 p2 p3) ?_, hrun, hended, _, _, rfl, ?_, ⟨_, rfl⟩, hW, hsame.mono (by decide) (by decide)⟩
  · show Steps p.tables e below (s₁.setTop (mkF m 0 #[.val (.int p0), .val (.int p1), .val (.int p2), .val (.int p3), .unset, .unset, .unset, .unset, .unset, .unset] [])) _
    refine XS.iloadN X0.here hx rfl (hb hby at_0) rfl ?_
    refine XS.iconst X0.here hx rfl (hb hby at_1) ?_
    show Steps p.tables e below (s₁.setTop (mkF m 2 #[.val (.int p0), .val (.int p1), .val (.int p2), .val (.int p3), .unset, .unset, .unset, .unset, .unset, .unset] [(.int 3), (.int p0)])) _
    refine XS.iand X0.here hx rfl (hb hby at_2) rfl ?_
    show Steps p.tables e below (s₁.setTop (mkF m 3 #[.val (.int p0), .val (.int p1), .val (.int p2), .val (.int p3), .unset, .unset, .unset, .unset, .unset, .unset] [(.int (p0 &&& (3 : Int32)))])) _
    rw [f1]
    refine XS.istore X0.here hx rfl (hb hby at_3) rfl (l' := #[.val (.int p0), .val (.int p1), .val (.int p2), .val (.int p3), .val (.int 2), .unset, .unset, .unset, .unset, .unset]) rfl ?_
    refine XS.iload X0.here hx rfl (hb hby at_5) rfl ?_
    refine XS.ifYes X0.here hx rfl (pc0 := 7) (pc' := 21) rfl (hb hby at_7) rfl (by decide) (by decide) (by decide) ?_
    refine XS.iload X0.here hx rfl (hb hby at_21) rfl ?_
    show Steps p.tables e below (s₁.setTop (mkF m 23 #[.val (.int p0), .val (.int p1), .val (.int p2), .val (.int p3), .val (.int 2), .unset, .unset, .unset, .unset, .unset] [(.int 2)])) _
    refine XS.iconst X0.here hx rfl (hb hby at_23) ?_
    refine XS.icmpYes X0.here hx rfl (pc0 := 24) (pc' := 38) rfl (hb hby at_24) rfl (by decide) (by decide) (by decide) ?_
    refine XS.iload X0.here hx rfl (hb hby at_38) rfl ?_
    refine XS.iconst X0.here hx rfl (hb hby at_40) ?_
    refine XS.icmpNo X0.here hx rfl (hb hby at_41) rfl (by decide) ?_
    show Steps p.tables e below (s₁.setTop (mkF m 44 #[.val (.int p0), .val (.int p1), .val (.int p2), .val (.int p3), .val (.int 2), .unset, .unset, .unset, .unset, .unset] [])) _
    refine st1 _ ?_
    refine XS.astore X1.here hx rfl (hb hby at_47) rfl rfl (l' := #[.val (.int p0), .val (.int p1), .val (.int p2), .val (.int p3), .val (.int 2), .val (.ref a_COMPLETED), .unset, .unset, .unset, .unset]) rfl ?_
    refine XS.iconst X1.here hx rfl (hb hby at_49) ?_
    refine XS.istore X1.here hx rfl (hb hby at_50) rfl (l' := #[.val (.int p0), .val (.int p1), .val (.int p2), .val (.int p3), .val (.int 2), .val (.ref a_COMPLETED), .val (.int 1), .unset, .unset, .unset]) rfl ?_
    refine XS.goto X1.here hx rfl (pc0 := 52) (pc' := 63) rfl (hb hby at_52) (by decide) (by decide) ?_
    show Steps p.tables e below (T1.setTop (mkF m 63 #[.val (.int p0), .val (.int p1), .val (.int p2), .val (.int p3), .val (.int 2), .val (.ref a_COMPLETED), .val (.int 1), .unset, .unset, .unset] [])) _
    refine XS.aconstNull X1.here hx rfl (hb hby at_63) ?_
    refine XS.aconstNull X1.here hx rfl (hb hby at_64) ?_
    refine XS.iconst X1.here hx rfl (hb hby at_65) ?_
    refine XS.aconstNull X1.here hx rfl (hb hby at_66) ?_
    show Steps p.tables e below (T1.setTop (mkF m 67 #[.val (.int p0), .val (.int p1), .val (.int p2), .val (.int p3), .val (.int 2), .val (.ref a_COMPLETED), .val (.int 1), .unset, .unset, .unset] [.null, (.int 0), .null, .null])) _
    refine st2 _ ?_
    refine XS.astore X2.here hx rfl (hb hby at_70) rfl rfl (l' := #[.val (.int p0), .val (.int p1), .val (.int p2), .val (.int p3), .val (.int 2), .val (.ref a_COMPLETED), .val (.int 1), .val (.ref b60), .unset, .unset]) rfl ?_
    refine XS.aload X2.here hx rfl (hb hby at_72) rfl rfl ?_
    refine XS.iloadN X2.here hx rfl (hb hby at_74) rfl ?_
    refine XS.iloadN X2.here hx rfl (hb hby at_75) rfl ?_
    show Steps p.tables e below (T2.setTop (mkF m 76 #[.val (.int p0), .val (.int p1), .val (.int p2), .val (.int p3), .val (.int 2), .val (.ref a_COMPLETED), .val (.int 1), .val (.ref b60), .unset, .unset] [(.int p2), (.int p1), (.ref b60)])) _
    refine XS.iloadN X2.here hx rfl (hb hby at_76) rfl ?_
    refine XS.aconstNull X2.here hx rfl (hb hby at_77) ?_
    show Steps p.tables e below (T2.setTop (mkF m 78 #[.val (.int p0), .val (.int p1), .val (.int p2), .val (.int p3), .val (.int 2), .val (.ref a_COMPLETED), .val (.int 1), .val (.ref b60), .unset, .unset] [.null, (.int p3), (.int p2), (.int p1), (.ref b60)])) _
    refine st4.trans ?_
    refine XS.astore X4.here hx rfl (hb hby at_81) rfl rfl (l' := #[.val (.int p0), .val (.int p1), .val (.int p2), .val (.int p3), .val (.int 2), .val (.ref a_COMPLETED), .val (.int 1), .val (.ref b60), .val (.ref b61), .unset]) rfl ?_
    refine XS.aload X4.here hx rfl (hb hby at_83) rfl rfl ?_
    refine XS.aconstNull X4.here hx rfl (hb hby at_85) ?_
    show Steps p.tables e below (T4.setTop (mkF m 86 #[.val (.int p0), .val (.int p1), .val (.int p2), .val (.int p3), .val (.int 2), .val (.ref a_COMPLETED), .val (.int 1), .val (.ref b60), .val (.ref b61), .unset] [.null, (.ref b61)])) _
    refine st7.trans ?_
    refine XS.astore X7.here hx rfl (hb hby at_89) rfl rfl (l' := #[.val (.int p0), .val (.int p1), .val (.int p2), .val (.int p3), .val (.int 2), .val (.ref a_COMPLETED), .val (.int 1), .val (.ref b60), .val (.ref b61), .val (.ref b62)]) rfl ?_
    refine XS.aload X7.here hx rfl (hb hby at_91) rfl rfl ?_
    show Steps p.tables e below (T7.setTop (mkF m 93 #[.val (.int p0), .val (.int p1), .val (.int p2), .val (.int p3), .val (.int 2), .val (.ref a_COMPLETED), .val (.int 1), .val (.ref b60), .val (.ref b61), .val (.ref b62)] [(.ref a_COMPLETED)])) _
    refine st9.trans ?_
    refine XS.iload X9.here hx rfl (hb hby at_96) rfl ?_
    refine XS.icmpNo X9.here hx rfl (hb hby at_98) rfl (by decide) ?_
    refine XS.aload X9.here hx rfl (hb hby at_101) rfl rfl ?_
    show Steps p.tables e below (T9.setTop (mkF m 103 #[.val (.int p0), .val (.int p1), .val (.int p2), .val (.int p3), .val (.int 2), .val (.ref a_COMPLETED), .val (.int 1), .val (.ref b60), .val (.ref b61), .val (.ref b62)] [(.ref b60)])) _
    refine st15.trans ?_
    show Steps p.tables e below (T15.setTop (mkF m 106 #[.val (.int p0), .val (.int p1), .val (.int p2), .val (.int p3), .val (.int 2), .val (.ref a_COMPLETED), .val (.int 1), .val (.ref b60), .val (.ref b61), .val (.ref b62)] [(.ref a_QUEUED)])) _
    refine st21.trans ?_
    refine XS.ifNo X21.here hx rfl (hb hby at_109) rfl (by decide) ?_
    refine XS.aload X21.here hx rfl (hb hby at_112) rfl rfl ?_
    show Steps p.tables e below (T21.setTop (mkF m 114 #[.val (.int p0), .val (.int p1), .val (.int p2), .val (.int p3), .val (.int 2), .val (.ref a_COMPLETED), .val (.int 1), .val (.ref b60), .val (.ref b61), .val (.ref b62)] [(.ref b61)])) _
    refine st26.trans ?_
    show Steps p.tables e below (T26.setTop (mkF m 117 #[.val (.int p0), .val (.int p1), .val (.int p2), .val (.int p3), .val (.int 2), .val (.ref a_COMPLETED), .val (.int 1), .val (.ref b60), .val (.ref b61), .val (.ref b62)] [(.ref a_RUNNING)])) _
    refine st28.trans ?_
    refine XS.ifNo X28.here hx rfl (hb hby at_120) rfl (by decide) ?_
    refine XS.aload X28.here hx rfl (hb hby at_123) rfl rfl ?_
    show Steps p.tables e below (T28.setTop (mkF m 125 #[.val (.int p0), .val (.int p1), .val (.int p2), .val (.int p3), .val (.int 2), .val (.ref a_COMPLETED), .val (.int 1), .val (.ref b60), .val (.ref b61), .val (.ref b62)] [(.ref b62)])) _
    refine st32.trans ?_
    show Steps p.tables e below (T32.setTop (mkF m 128 #[.val (.int p0), .val (.int p1), .val (.int p2), .val (.int p3), .val (.int 2), .val (.ref a_COMPLETED), .val (.int 1), .val (.ref b60), .val (.ref b61), .val (.ref b62)] [(.ref a_COMPLETED)])) _
    refine st33.trans ?_
    refine XS.ifNo X33.here hx rfl (hb hby at_131) rfl (by decide) ?_
    refine XS.iconst X33.here hx rfl (hb hby at_134) ?_
    refine XS.goto X33.here hx rfl (pc0 := 135) (pc' := 139) rfl (hb hby at_135) (by decide) (by decide) ?_
    show Steps p.tables e below (T33.setTop (mkF m 139 #[.val (.int p0), .val (.int p1), .val (.int p2), .val (.int p3), .val (.int 2), .val (.ref a_COMPLETED), .val (.int 1), .val (.ref b60), .val (.ref b61), .val (.ref b62)] [(.int 1)])) _
    exact retN X33 hx (t := .boolean) Bd.returns (by simp) (hb hby at_139) hr
  · show QT n0 _ T33.heap _
    rw [e33]
    exact ⟨rfl, N33⟩
set_option maxRecDepth 65536 in
set_option maxHeartbeats 40000000 in
theorem rm0_67 (l : Launch) (Z : State) (a0 : Array Value) (hw : ∀ d ∈ tables_1, d.before a0 Z = true) (ws : List Jvm.Cond) (p0 : Int32) (p1 : Int32) (p2 : Int32) (p3 : Int32) (a_COMPLETED : Addr) (a_QUEUED : Addr) (a_RUNNING : Addr) (a_FAILED : Addr) (h0 : Heap) (n0 : Nat) (Z0 : n0 ≤ h0.size) (f1 : (p0 &&& (3 : Int32)) = (2 : Int32)) (f2 : S_2 Z h0 (.ref a_COMPLETED)) (f3 : S_0 Z h0 (.ref a_QUEUED)) (f4 : S_1 Z h0 (.ref a_RUNNING)) (f5 : ¬ ((0 : Int32) < (((0 : Int32) + p1) + ((0 : Int32) + p2)))) (f6 : S_3 Z h0 (.ref a_FAILED)) (f7 : E_0 Z h0 a_COMPLETED) (f8 : a_QUEUED ≠ a_COMPLETED) (f9 : a_QUEUED ≠ a_FAILED) (f10 : E_0 Z h0 a_QUEUED) (f11 : a_COMPLETED ≠ a_RUNNING) (f12 : a_FAILED ≠ a_RUNNING) (f13 : E_0 Z h0 a_RUNNING) (f14 : a_COMPLETED ≠ a_FAILED) (f15 : E_0 Z h0 a_FAILED) :
    MetFree l x (head1 (Jvm.Cond.code x code maxLocals ret :: ws) room_1) (fun a U => a = #[(.int p0), (.int p1), (.int p2), (.int p3)] ∧ Z.Warmed39 U.vm ∧ U.heap = h0) (fun _ _ _ _ _ => True) (fun _ U o U' => ∃ v L, o = .returned v ∧ QT n0 v U'.heap L ∧ FrameEnd U o U' L room_1.cells room_1.slots) := by
  refine MetFree.of_bodySF (plainFor_of_name pn_com_example_corestone_corestone_StatusEndedPinLaw) hisR ?_
  intro p e s m args below meth c s₁ Bd hml0 hP hK
  obtain ⟨rfl, hZ, hh⟩ := hP
  have hx := Bd.exec
  have hby := Bd.bytes
  have hml : c.maxLocals = 10 := hml0
  have hown : s.vm.findClass "com/example/corestone/corestone/StatusEndedPinLaw" = some m.cls := findClass_of_methodNamed Bd.named
  have hnm := (name_of_methodNamed Bd.named Bd.method).1
  have X0 : Stand p l e room_1 s m #[(.int p0), (.int p1), (.int p2), (.int p3)] below meth c s₁ [] 0 0 := Stand.of_body Bd
  have e0 : s₁.heap = h0 := by rw [← hh, Bd.state]; rfl
  have N0 := Fr.nil n0
  obtain ⟨T1, X1, e1, st1⟩ := getS2 X0 hx hZ hown (host := "") (Or.inl (tw_67 hw)) Via.refl e0 f2 (g := (mkF m 44 #[.val (.int p0), .val (.int p1), .val (.int p2), .val (.int p3), .val (.int 2), .unset, .unset, .unset, .unset, .unset] [])) rfl (hb hby at_44)
  -- pc 67: com/example/corestone/corestone/BulkRequest.queued
  obtain ⟨_, _, ⟨T2, L2, k2, n2⟩, -, X2, ⟨Lc2, hQ2, l2, y2, z2⟩, st2⟩ := Jvm.LawKit.callS X1 hx (y := M_2) hown (mvT hZ (tw_3 hw)) (mvT hZ (tw_4 hw)) (mvT hZ (tw_5 hw)) (mvT hZ (tw_6 hw)) (by decide) (backOf (W := 0) (rm1_19 l Z a0 hw [] a_QUEUED h0 n0 Z0 f3) hZ (tw_6 hw) (tw_5 hw) (by decide) (by decide)) (g := (mkF m 67 #[.val (.int p0), .val (.int p1), .val (.int p2), .val (.int p3), .val (.int 2), .val (.ref a_COMPLETED), .val (.int 1), .unset, .unset, .unset] [.null, (.int 0), .null, .null])) rfl (by rw [hml]; rfl) (argsL := [.null, .null, (.int 0), .null]) (rest := []) (lenOf pd_2 rfl) rfl (by show 2 * 0 + _ ≤ _; exact Nat.le_of_eq rfl) (hb hby at_67) (fun _ _ => ⟨rfl, e1, (by decide : 0 + 1 ≤ _), (by decide : 0 + 9 ≤ _)⟩)
  dsimp only [Pt.U, Pt.locs, Pt.cells, Pt.slots] at X2 l2 y2 z2 st2 hQ2
  subst l2 y2 z2
  obtain ⟨b64, rfl, Nq2, K2, le_b64, o2_0, o2_1, o2_2, o2_3, o2_4, o2_5, o2_6, o2_7, o2_8, o2_9⟩ := hQ2
  have N2 := Fr.app N0 Nq2
  have sz_b64 : h0.size ≤ b64 := Nat.le_trans (Nat.le_refl _) le_b64
  have g_b64 : n0 ≤ b64 := Nat.le_trans Z0 sz_b64
  have KK2 : Keep h0 T2.heap [] := (Keep.refl h0 []).trans K2 (fun x hx => nomatch hx)
  -- pc 78: com/example/corestone/corestone/BulkRequest.running
  have u3 : S_1 Z T2.heap (.ref a_RUNNING) := own_sta_keep f4 K2 (fun _ q => nomatch q)
  obtain ⟨cq4, kq4, q4a, q4b, q4c⟩ := isOf hZ rfl o2_0
  obtain ⟨_, _, ⟨T4, L4, k4, n4⟩, -, X4, ⟨Lc4, hQ4, l4, y4, z4⟩, st4⟩ := X2.virtualBack hx (y := M_3) (z := M_3) hown (mvT hZ (tw_39 hw)) (mvT hZ (tw_40 hw)) (notFace_of_selects (args := #[]) (mvT hZ (tw_42 hw))) (mvT hZ (tw_42 hw)) (mvT hZ (tw_41 hw)) (by decide) (backOf (W := 0) (rm5_25 l Z a0 hw [] b64 p1 p2 p3 a_RUNNING T2.heap n0 (Nat.le_trans Z0 KK2.1) o2_1 o2_2 u3 o2_4 o2_6 o2_7 o2_8 o2_9) hZ (tw_43 hw) (tw_5 hw) (by decide) (by decide)) q4a q4c (g := (mkF m 78 #[.val (.int p0), .val (.int p1), .val (.int p2), .val (.int p3), .val (.int 2), .val (.ref a_COMPLETED), .val (.int 1), .val (.ref b64), .unset, .unset] [.null, (.int p3), (.int p2), (.int p1), (.ref b64)])) rfl (by rw [hml]; rfl) (Steps.refl _) (argsL := [(.int p1), (.int p2), (.int p3), .null]) (rest := []) (lenOf pd_3 rfl) rfl (by show 2 * 0 + _ ≤ _; exact Nat.le_of_eq rfl) (hb hby at_78) (fun _ _ => ⟨rfl, rfl, (by decide : 1 + 1 ≤ _), (by decide : 9 + 9 ≤ _)⟩)
  dsimp only [Pt.U, Pt.locs, Pt.cells, Pt.slots] at X4 l4 y4 z4 st4 hQ4
  subst l4 y4 z4
  obtain ⟨b65, rfl, Nq4, K4, le_b65, o4_0, o4_1, o4_2, o4_3, o4_4, o4_5, o4_6, o4_7, o4_8, o4_9⟩ := hQ4
  have N4 := Fr.app N2 Nq4
  have sz_b65 : h0.size ≤ b65 := Nat.le_trans KK2.1 le_b65
  have g_b65 : n0 ≤ b65 := Nat.le_trans Z0 sz_b65
  have KK4 : Keep h0 T4.heap [] := KK2.trans K4 (fun x hx => nomatch hx)
  -- pc 86: com/example/corestone/corestone/BulkRequest.ended
  have u5 : S_3 Z T2.heap (.ref a_FAILED) := own_sta_keep f6 K2 (fun _ q => nomatch q)
  have u6 : S_3 Z T4.heap (.ref a_FAILED) := own_sta_keep u5 K4 (fun _ q => nomatch q)
  obtain ⟨cq7, kq7, q7a, q7b, q7c⟩ := isOf hZ rfl o4_0
  obtain ⟨_, _, ⟨T7, L7, k7, n7⟩, -, X7, ⟨Lc7, hQ7, l7, y7, z7⟩, st7⟩ := X4.virtualBack hx (y := M_4) (z := M_4) hown (mvT hZ (tw_46 hw)) (mvT hZ (tw_47 hw)) (notFace_of_selects (args := #[]) (mvT hZ (tw_49 hw))) (mvT hZ (tw_49 hw)) (mvT hZ (tw_48 hw)) (by decide) (backOf (W := 0) (rm6_46 l Z a0 hw [] b65 p1 p2 a_FAILED p3 T4.heap n0 (Nat.le_trans Z0 KK4.1) o4_1 o4_2 o4_7 o4_8 f5 u6 o4_4 o4_6 o4_9) hZ (tw_50 hw) (tw_5 hw) (by decide) (by decide)) q7a q7c (g := (mkF m 86 #[.val (.int p0), .val (.int p1), .val (.int p2), .val (.int p3), .val (.int 2), .val (.ref a_COMPLETED), .val (.int 1), .val (.ref b64), .val (.ref b65), .unset] [.null, (.ref b65)])) rfl (by rw [hml]; rfl) (Steps.refl _) (argsL := [.null]) (rest := []) (lenOf pd_4 rfl) rfl (by show 2 * 0 + _ ≤ _; exact Nat.le_of_eq rfl) (hb hby at_86) (fun _ _ => ⟨rfl, rfl, (by decide : 2 + 1 ≤ _), (by decide : 18 + 9 ≤ _)⟩)
  dsimp only [Pt.U, Pt.locs, Pt.cells, Pt.slots] at X7 l7 y7 z7 st7 hQ7
  subst l7 y7 z7
  obtain ⟨b66, rfl, Nq7, K7, le_b66, o7_0, o7_1, o7_2, o7_3, o7_4, o7_5, o7_6, o7_7, o7_8, o7_9⟩ := hQ7
  have N7 := Fr.app N4 Nq7
  have sz_b66 : h0.size ≤ b66 := Nat.le_trans KK4.1 le_b66
  have g_b66 : n0 ≤ b66 := Nat.le_trans Z0 sz_b66
  have KK7 : Keep h0 T7.heap [] := KK4.trans K7 (fun x hx => nomatch hx)
  -- pc 93: com/example/corestone/corestone/BulkRequest$Status.ended
  have u8 : S_2 Z T2.heap (.ref a_COMPLETED) := own_sta_keep f2 K2 (fun _ q => nomatch q)
  have u9 : S_2 Z T4.heap (.ref a_COMPLETED) := own_sta_keep u8 K4 (fun _ q => nomatch q)
  have u10 : S_2 Z T7.heap (.ref a_COMPLETED) := own_sta_keep u9 K7 (fun _ q => nomatch q)
  have u12 : E_0 Z T2.heap a_COMPLETED := Exa.keep f7 K2
  have u13 : E_0 Z T4.heap a_COMPLETED := Exa.keep u12 K4
  have u14 : E_0 Z T7.heap a_COMPLETED := Exa.keep u13 K7
  obtain ⟨cq11, kq11, q11a, q11b, q11c⟩ := isOf hZ rfl u14
  obtain ⟨_, _, ⟨T11, L11, k11, n11⟩, -, X11, ⟨Lc11, hQ11, l11, y11, z11⟩, st11⟩ := X7.virtualBack hx (y := M_5) (z := M_5) hown (mvT hZ (tw_53 hw)) (mvT hZ (tw_54 hw)) (notFace_of_selects (args := #[]) (mvT hZ (tw_56 hw))) (mvT hZ (tw_56 hw)) (mvT hZ (tw_55 hw)) (by decide) (backOf (W := 0) (rm7_39 l Z a0 hw [] a_COMPLETED T7.heap n0 (Nat.le_trans Z0 KK7.1) u10) hZ (tw_57 hw) (tw_1 hw) (by decide) (by decide)) q11a q11c (g := (mkF m 93 #[.val (.int p0), .val (.int p1), .val (.int p2), .val (.int p3), .val (.int 2), .val (.ref a_COMPLETED), .val (.int 1), .val (.ref b64), .val (.ref b65), .val (.ref b66)] [(.ref a_COMPLETED)])) rfl (by rw [hml]; rfl) (Steps.refl _) (argsL := []) (rest := []) (lenOf pd_5 rfl) rfl (by show 2 * 0 + _ ≤ _; exact Nat.le_of_eq rfl) (hb hby at_93) (fun _ _ => ⟨rfl, rfl, (by decide : 3 + 0 ≤ _), (by decide : 27 + 0 ≤ _)⟩)
  dsimp only [Pt.U, Pt.locs, Pt.cells, Pt.slots] at X11 l11 y11 z11 st11 hQ11
  subst l11 y11 z11
  obtain ⟨rfl, Nq11, e11⟩ := hQ11
  have N11 := Fr.app N7 Nq11
  -- pc 103: com/example/corestone/corestone/BulkRequest.status
  have u15 : F_3 Z T4.heap b64 (.ref a_QUEUED) := Fld.keep o2_3 K4 List.not_mem_nil
  have u16 : F_3 Z T7.heap b64 (.ref a_QUEUED) := Fld.keep u15 K7 List.not_mem_nil
  have u18 : E_1 Z T4.heap b64 := Exa.keep o2_0 K4
  have u19 : E_1 Z T7.heap b64 := Exa.keep u18 K7
  obtain ⟨cq17, kq17, q17a, q17b, q17c⟩ := isOf hZ e11 u19
  obtain ⟨_, _, ⟨T17, L17, k17, n17⟩, -, X17, ⟨Lc17, hQ17, l17, y17, z17⟩, st17⟩ := X11.virtualBack hx (y := M_6) (z := M_6) hown (mvT hZ (tw_61 hw)) (mvT hZ (tw_62 hw)) (notFace_of_selects (args := #[]) (mvT hZ (tw_64 hw))) (mvT hZ (tw_64 hw)) (mvT hZ (tw_63 hw)) (by decide) (backOf (W := 0) (rm8_35 l Z a0 hw [] b64 a_QUEUED T7.heap n0 (Nat.le_trans Z0 KK7.1) u16) hZ (tw_65 hw) (tw_5 hw) (by decide) (by decide)) q17a q17c (g := (mkF m 103 #[.val (.int p0), .val (.int p1), .val (.int p2), .val (.int p3), .val (.int 2), .val (.ref a_COMPLETED), .val (.int 1), .val (.ref b64), .val (.ref b65), .val (.ref b66)] [(.ref b64)])) rfl (by rw [hml]; rfl) (Steps.refl _) (argsL := []) (rest := []) (lenOf pd_6 rfl) rfl (by show 2 * 0 + _ ≤ _; exact Nat.le_of_eq rfl) (hb hby at_103) (fun _ _ => ⟨rfl, e11, (by decide : 3 + 0 ≤ _), (by decide : 27 + 0 ≤ _)⟩)
  dsimp only [Pt.U, Pt.locs, Pt.cells, Pt.slots] at X17 l17 y17 z17 st17 hQ17
  subst l17 y17 z17
  obtain ⟨rfl, Nq17, e17⟩ := hQ17
  have N17 := Fr.app N11 Nq17
  -- pc 106: com/example/corestone/corestone/BulkRequest$Status.ended
  have u20 : S_3 Z T7.heap (.ref a_FAILED) := own_sta_keep u6 K7 (fun _ q => nomatch q)
  have u22 : E_0 Z T2.heap a_QUEUED := Exa.keep f10 K2
  have u23 : E_0 Z T4.heap a_QUEUED := Exa.keep u22 K4
  have u24 : E_0 Z T7.heap a_QUEUED := Exa.keep u23 K7
  obtain ⟨cq21, kq21, q21a, q21b, q21c⟩ := isOf hZ e17 u24
  obtain ⟨_, _, ⟨T21, L21, k21, n21⟩, -, X21, ⟨Lc21, hQ21, l21, y21, z21⟩, st21⟩ := X17.virtualBack hx (y := M_5) (z := M_5) hown (mvT hZ (tw_53 hw)) (mvT hZ (tw_54 hw)) (notFace_of_selects (args := #[]) (mvT hZ (tw_56 hw))) (mvT hZ (tw_56 hw)) (mvT hZ (tw_55 hw)) (by decide) (backOf (W := 0) (rm7_34 l Z a0 hw [] a_QUEUED a_COMPLETED a_FAILED T7.heap n0 (Nat.le_trans Z0 KK7.1) u10 f8 u20 f9) hZ (tw_57 hw) (tw_1 hw) (by decide) (by decide)) q21a q21c (g := (mkF m 106 #[.val (.int p0), .val (.int p1), .val (.int p2), .val (.int p3), .val (.int 2), .val (.ref a_COMPLETED), .val (.int 1), .val (.ref b64), .val (.ref b65), .val (.ref b66)] [(.ref a_QUEUED)])) rfl (by rw [hml]; rfl) (Steps.refl _) (argsL := []) (rest := []) (lenOf pd_5 rfl) rfl (by show 2 * 0 + _ ≤ _; exact Nat.le_of_eq rfl) (hb hby at_106) (fun _ _ => ⟨rfl, e17, (by decide : 3 + 0 ≤ _), (by decide : 27 + 0 ≤ _)⟩)
  dsimp only [Pt.U, Pt.locs, Pt.cells, Pt.slots] at X21 l21 y21 z21 st21 hQ21
  subst l21 y21 z21
  obtain ⟨rfl, Nq21, e21⟩ := hQ21
  have N21 := Fr.app N17 Nq21
  -- pc 114: com/example/corestone/corestone/BulkRequest.status
  have u25 : F_3 Z T7.heap b65 (.ref a_RUNNING) := Fld.keep o4_3 K7 List.not_mem_nil
  have u27 : E_1 Z T7.heap b65 := Exa.keep o4_0 K7
  obtain ⟨cq26, kq26, q26a, q26b, q26c⟩ := isOf hZ e21 u27
  obtain ⟨_, _, ⟨T26, L26, k26, n26⟩, -, X26, ⟨Lc26, hQ26, l26, y26, z26⟩, st26⟩ := X21.virtualBack hx (y := M_6) (z := M_6) hown (mvT hZ (tw_61 hw)) (mvT hZ (tw_62 hw)) (notFace_of_selects (args := #[]) (mvT hZ (tw_64 hw))) (mvT hZ (tw_64 hw)) (mvT hZ (tw_63 hw)) (by decide) (backOf (W := 0) (rm8_36 l Z a0 hw [] b65 a_RUNNING T7.heap n0 (Nat.le_trans Z0 KK7.1) u25) hZ (tw_65 hw) (tw_5 hw) (by decide) (by decide)) q26a q26c (g := (mkF m 114 #[.val (.int p0), .val (.int p1), .val (.int p2), .val (.int p3), .val (.int 2), .val (.ref a_COMPLETED), .val (.int 1), .val (.ref b64), .val (.ref b65), .val (.ref b66)] [(.ref b65)])) rfl (by rw [hml]; rfl) (Steps.refl _) (argsL := []) (rest := []) (lenOf pd_6 rfl) rfl (by show 2 * 0 + _ ≤ _; exact Nat.le_of_eq rfl) (hb hby at_114) (fun _ _ => ⟨rfl, e21, (by decide : 3 + 0 ≤ _), (by decide : 27 + 0 ≤ _)⟩)
  dsimp only [Pt.U, Pt.locs, Pt.cells, Pt.slots] at X26 l26 y26 z26 st26 hQ26
  subst l26 y26 z26
  obtain ⟨rfl, Nq26, e26⟩ := hQ26
  have N26 := Fr.app N21 Nq26
  -- pc 117: com/example/corestone/corestone/BulkRequest$Status.ended
  have u29 : E_0 Z T2.heap a_RUNNING := Exa.keep f13 K2
  have u30 : E_0 Z T4.heap a_RUNNING := Exa.keep u29 K4
  have u31 : E_0 Z T7.heap a_RUNNING := Exa.keep u30 K7
  obtain ⟨cq28, kq28, q28a, q28b, q28c⟩ := isOf hZ e26 u31
  obtain ⟨_, _, ⟨T28, L28, k28, n28⟩, -, X28, ⟨Lc28, hQ28, l28, y28, z28⟩, st28⟩ := X26.virtualBack hx (y := M_5) (z := M_5) hown (mvT hZ (tw_53 hw)) (mvT hZ (tw_54 hw)) (notFace_of_selects (args := #[]) (mvT hZ (tw_56 hw))) (mvT hZ (tw_56 hw)) (mvT hZ (tw_55 hw)) (by decide) (backOf (W := 0) (rm7_37 l Z a0 hw [] a_RUNNING a_COMPLETED a_FAILED T7.heap n0 (Nat.le_trans Z0 KK7.1) u10 f11 u20 f12) hZ (tw_57 hw) (tw_1 hw) (by decide) (by decide)) q28a q28c (g := (mkF m 117 #[.val (.int p0), .val (.int p1), .val (.int p2), .val (.int p3), .val (.int 2), .val (.ref a_COMPLETED), .val (.int 1), .val (.ref b64), .val (.ref b65), .val (.ref b66)] [(.ref a_RUNNING)])) rfl (by rw [hml]; rfl) (Steps.refl _) (argsL := []) (rest := []) (lenOf pd_5 rfl) rfl (by show 2 * 0 + _ ≤ _; exact Nat.le_of_eq rfl) (hb hby at_117) (fun _ _ => ⟨rfl, e26, (by decide : 3 + 0 ≤ _), (by decide : 27 + 0 ≤ _)⟩)
  dsimp only [Pt.U, Pt.locs, Pt.cells, Pt.slots] at X28 l28 y28 z28 st28 hQ28
  subst l28 y28 z28
  obtain ⟨rfl, Nq28, e28⟩ := hQ28
  have N28 := Fr.app N26 Nq28
  -- pc 125: com/example/corestone/corestone/BulkRequest.status
  obtain ⟨cq32, kq32, q32a, q32b, q32c⟩ := isOf hZ e28 o7_0
  obtain ⟨_, _, ⟨T32, L32, k32, n32⟩, -, X32, ⟨Lc32, hQ32, l32, y32, z32⟩, st32⟩ := X28.virtualBack hx (y := M_6) (z := M_6) hown (mvT hZ (tw_61 hw)) (mvT hZ (tw_62 hw)) (notFace_of_selects (args := #[]) (mvT hZ (tw_64 hw))) (mvT hZ (tw_64 hw)) (mvT hZ (tw_63 hw)) (by decide) (backOf (W := 0) (rm8_49 l Z a0 hw [] b66 a_FAILED T7.heap n0 (Nat.le_trans Z0 KK7.1) o7_3) hZ (tw_65 hw) (tw_5 hw) (by decide) (by decide)) q32a q32c (g := (mkF m 125 #[.val (.int p0), .val (.int p1), .val (.int p2), .val (.int p3), .val (.int 2), .val (.ref a_COMPLETED), .val (.int 1), .val (.ref b64), .val (.ref b65), .val (.ref b66)] [(.ref b66)])) rfl (by rw [hml]; rfl) (Steps.refl _) (argsL := []) (rest := []) (lenOf pd_6 rfl) rfl (by show 2 * 0 + _ ≤ _; exact Nat.le_of_eq rfl) (hb hby at_125) (fun _ _ => ⟨rfl, e28, (by decide : 3 + 0 ≤ _), (by decide : 27 + 0 ≤ _)⟩)
  dsimp only [Pt.U, Pt.locs, Pt.cells, Pt.slots] at X32 l32 y32 z32 st32 hQ32
  subst l32 y32 z32
  obtain ⟨rfl, Nq32, e32⟩ := hQ32
  have N32 := Fr.app N28 Nq32
  -- pc 128: com/example/corestone/corestone/BulkRequest$Status.ended
  have u34 : E_0 Z T2.heap a_FAILED := Exa.keep f15 K2
  have u35 : E_0 Z T4.heap a_FAILED := Exa.keep u34 K4
  have u36 : E_0 Z T7.heap a_FAILED := Exa.keep u35 K7
  obtain ⟨cq33, kq33, q33a, q33b, q33c⟩ := isOf hZ e32 u36
  obtain ⟨_, _, ⟨T33, L33, k33, n33⟩, -, X33, ⟨Lc33, hQ33, l33, y33, z33⟩, st33⟩ := X32.virtualBack hx (y := M_5) (z := M_5) hown (mvT hZ (tw_53 hw)) (mvT hZ (tw_54 hw)) (notFace_of_selects (args := #[]) (mvT hZ (tw_56 hw))) (mvT hZ (tw_56 hw)) (mvT hZ (tw_55 hw)) (by decide) (backOf (W := 0) (rm7_50 l Z a0 hw [] a_FAILED a_COMPLETED T7.heap n0 (Nat.le_trans Z0 KK7.1) u10 f14 u20) hZ (tw_57 hw) (tw_1 hw) (by decide) (by decide)) q33a q33c (g := (mkF m 128 #[.val (.int p0), .val (.int p1), .val (.int p2), .val (.int p3), .val (.int 2), .val (.ref a_COMPLETED), .val (.int 1), .val (.ref b64), .val (.ref b65), .val (.ref b66)] [(.ref a_FAILED)])) rfl (by rw [hml]; rfl) (Steps.refl _) (argsL := []) (rest := []) (lenOf pd_5 rfl) rfl (by show 2 * 0 + _ ≤ _; exact Nat.le_of_eq rfl) (hb hby at_128) (fun _ _ => ⟨rfl, e32, (by decide : 3 + 0 ≤ _), (by decide : 27 + 0 ≤ _)⟩)
  dsimp only [Pt.U, Pt.locs, Pt.cells, Pt.slots] at X33 l33 y33 z33 st33 hQ33
  subst l33 y33 z33
  obtain ⟨rfl, Nq33, e33⟩ := hQ33
  have N33 := Fr.app N32 Nq33
  obtain ⟨fs, hr, hrun, hended, hW, hsame⟩ := X33.leave (v := (some (.int 1))) (fun h => by rw [Bd.returns] at h; cases h)
  refine ⟨_, _, castTop (ef0_IIII m p0 p1 p2 p3) ?_, hrun, hended, _, _, rfl, ?_, ⟨_, rfl⟩, hW, hsame.mono (by decide) (by decide)⟩
  · show Steps p.tables e below (s₁.setTop (mkF m 0 #[.val (.int p0), .val (.int p1), .val (.int p2), .val (.int p3), .unset, .unset, .unset, .unset, .unset, .unset] [])) _
    refine XS.iloadN X0.here hx rfl (hb hby at_0) rfl ?_
    refine XS.iconst X0.here hx rfl (hb hby at_1) ?_
    show Steps p.tables e below (s₁.setTop (mkF m 2 #[.val (.int p0), .val (.int p1), .val (.int p2), .val (.int p3), .unset, .unset, .unset, .unset, .unset, .unset] [(.int 3), (.int p0)])) _
    refine XS.iand X0.here hx rfl (hb hby at_2) rfl ?_
    show Steps p.tables e below (s₁.setTop (mkF m 3 #[.val (.int p0), .val (.int p1), .val (.int p2), .val (.int p3), .unset, .unset, .unset, .unset, .unset, .unset] [(.int (p0 &&& (3 : Int32)))])) _
    rw [f1]
    refine XS.istore X0.here hx rfl (hb hby at_3) rfl (l' := #[.val (.int p0), .val (.int p1), .val (.int p2), .val (.int p3), .val (.int 2), .unset, .unset, .unset, .unset, .unset]) rfl ?_
    refine XS.iload X0.here hx rfl (hb hby at_5) rfl ?_
    refine XS.ifYes X0.here hx rfl (pc0 := 7) (pc' := 21) rfl (hb hby at_7) rfl (by decide) (by decide) (by decide) ?_
    refine XS.iload X0.here hx rfl (hb hby at_21) rfl ?_
    show Steps p.tables e below (s₁.setTop (mkF m 23 #[.val (.int p0), .val (.int p1), .val (.int p2), .val (.int p3), .val (.int 2), .unset, .unset, .unset, .unset, .unset] [(.int 2)])) _
    refine XS.iconst X0.here hx rfl (hb hby at_23) ?_
    refine XS.icmpYes X0.here hx rfl (pc0 := 24) (pc' := 38) rfl (hb hby at_24) rfl (by decide) (by decide) (by decide) ?_
    refine XS.iload X0.here hx rfl (hb hby at_38) rfl ?_
    refine XS.iconst X0.here hx rfl (hb hby at_40) ?_
    refine XS.icmpNo X0.here hx rfl (hb hby at_41) rfl (by decide) ?_
    show Steps p.tables e below (s₁.setTop (mkF m 44 #[.val (.int p0), .val (.int p1), .val (.int p2), .val (.int p3), .val (.int 2), .unset, .unset, .unset, .unset, .unset] [])) _
    refine st1 _ ?_
    refine XS.astore X1.here hx rfl (hb hby at_47) rfl rfl (l' := #[.val (.int p0), .val (.int p1), .val (.int p2), .val (.int p3), .val (.int 2), .val (.ref a_COMPLETED), .unset, .unset, .unset, .unset]) rfl ?_
    refine XS.iconst X1.here hx rfl (hb hby at_49) ?_
    refine XS.istore X1.here hx rfl (hb hby at_50) rfl (l' := #[.val (.int p0), .val (.int p1), .val (.int p2), .val (.int p3), .val (.int 2), .val (.ref a_COMPLETED), .val (.int 1), .unset, .unset, .unset]) rfl ?_
    refine XS.goto X1.here hx rfl (pc0 := 52) (pc' := 63) rfl (hb hby at_52) (by decide) (by decide) ?_
    show Steps p.tables e below (T1.setTop (mkF m 63 #[.val (.int p0), .val (.int p1), .val (.int p2), .val (.int p3), .val (.int 2), .val (.ref a_COMPLETED), .val (.int 1), .unset, .unset, .unset] [])) _
    refine XS.aconstNull X1.here hx rfl (hb hby at_63) ?_
    refine XS.aconstNull X1.here hx rfl (hb hby at_64) ?_
    refine XS.iconst X1.here hx rfl (hb hby at_65) ?_
    refine XS.aconstNull X1.here hx rfl (hb hby at_66) ?_
    show Steps p.tables e below (T1.setTop (mkF m 67 #[.val (.int p0), .val (.int p1), .val (.int p2), .val (.int p3), .val (.int 2), .val (.ref a_COMPLETED), .val (.int 1), .unset, .unset, .unset] [.null, (.int 0), .null, .null])) _
    refine st2 _ ?_
    refine XS.astore X2.here hx rfl (hb hby at_70) rfl rfl (l' := #[.val (.int p0), .val (.int p1), .val (.int p2), .val (.int p3), .val (.int 2), .val (.ref a_COMPLETED), .val (.int 1), .val (.ref b64), .unset, .unset]) rfl ?_
    refine XS.aload X2.here hx rfl (hb hby at_72) rfl rfl ?_
    refine XS.iloadN X2.here hx rfl (hb hby at_74) rfl ?_
    refine XS.iloadN X2.here hx rfl (hb hby at_75) rfl ?_
    show Steps p.tables e below (T2.setTop (mkF m 76 #[.val (.int p0), .val (.int p1), .val (.int p2), .val (.int p3), .val (.int 2), .val (.ref a_COMPLETED), .val (.int 1), .val (.ref b64), .unset, .unset] [(.int p2), (.int p1), (.ref b64)])) _
    refine XS.iloadN X2.here hx rfl (hb hby at_76) rfl ?_
    refine XS.aconstNull X2.here hx rfl (hb hby at_77) ?_
    show Steps p.tables e below (T2.setTop (mkF m 78 #[.val (.int p0), .val (.int p1), .val (.int p2), .val (.int p3), .val (.int 2), .val (.ref a_COMPLETED), .val (.int 1), .val (.ref b64), .unset, .unset] [.null, (.int p3), (.int p2), (.int p1), (.ref b64)])) _
    refine st4.trans ?_
    refine XS.astore X4.here hx rfl (hb hby at_81) rfl rfl (l' := #[.val (.int p0), .val (.int p1), .val (.int p2), .val (.int p3), .val (.int 2), .val (.ref a_COMPLETED), .val (.int 1), .val (.ref b64), .val (.ref b65), .unset]) rfl ?_
    refine XS.aload X4.here hx rfl (hb hby at_83) rfl rfl ?_
    refine XS.aconstNull X4.here hx rfl (hb hby at_85) ?_
    show Steps p.tables e below (T4.setTop (mkF m 86 #[.val (.int p0), .val (.int p1), .val (.int p2), .val (.int p3), .val (.int 2), .val (.ref a_COMPLETED), .val (.int 1), .val (.ref b64), .val (.ref b65), .unset] [.null, (.ref b65)])) _
    refine st7.trans ?_
    refine XS.astore X7.here hx rfl (hb hby at_89) rfl rfl (l' := #[.val (.int p0), .val (.int p1), .val (.int p2), .val (.int p3), .val (.int 2), .val (.ref a_COMPLETED), .val (.int 1), .val (.ref b64), .val (.ref b65), .val (.ref b66)]) rfl ?_
    refine XS.aload X7.here hx rfl (hb hby at_91) rfl rfl ?_
    show Steps p.tables e below (T7.setTop (mkF m 93 #[.val (.int p0), .val (.int p1), .val (.int p2), .val (.int p3), .val (.int 2), .val (.ref a_COMPLETED), .val (.int 1), .val (.ref b64), .val (.ref b65), .val (.ref b66)] [(.ref a_COMPLETED)])) _
    refine st11.trans ?_
    refine XS.iload X11.here hx rfl (hb hby at_96) rfl ?_
    refine XS.icmpNo X11.here hx rfl (hb hby at_98) rfl (by decide) ?_
    refine XS.aload X11.here hx rfl (hb hby at_101) rfl rfl ?_
    show Steps p.tables e below (T11.setTop (mkF m 103 #[.val (.int p0), .val (.int p1), .val (.int p2), .val (.int p3), .val (.int 2), .val (.ref a_COMPLETED), .val (.int 1), .val (.ref b64), .val (.ref b65), .val (.ref b66)] [(.ref b64)])) _
    refine st17.trans ?_
    show Steps p.tables e below (T17.setTop (mkF m 106 #[.val (.int p0), .val (.int p1), .val (.int p2), .val (.int p3), .val (.int 2), .val (.ref a_COMPLETED), .val (.int 1), .val (.ref b64), .val (.ref b65), .val (.ref b66)] [(.ref a_QUEUED)])) _
    refine st21.trans ?_
    refine XS.ifNo X21.here hx rfl (hb hby at_109) rfl (by decide) ?_
    refine XS.aload X21.here hx rfl (hb hby at_112) rfl rfl ?_
    show Steps p.tables e below (T21.setTop (mkF m 114 #[.val (.int p0), .val (.int p1), .val (.int p2), .val (.int p3), .val (.int 2), .val (.ref a_COMPLETED), .val (.int 1), .val (.ref b64), .val (.ref b65), .val (.ref b66)] [(.ref b65)])) _
    refine st26.trans ?_
    show Steps p.tables e below (T26.setTop (mkF m 117 #[.val (.int p0), .val (.int p1), .val (.int p2), .val (.int p3), .val (.int 2), .val (.ref a_COMPLETED), .val (.int 1), .val (.ref b64), .val (.ref b65), .val (.ref b66)] [(.ref a_RUNNING)])) _
    refine st28.trans ?_
    refine XS.ifNo X28.here hx rfl (hb hby at_120) rfl (by decide) ?_
    refine XS.aload X28.here hx rfl (hb hby at_123) rfl rfl ?_
    show Steps p.tables e below (T28.setTop (mkF m 125 #[.val (.int p0), .val (.int p1), .val (.int p2), .val (.int p3), .val (.int 2), .val (.ref a_COMPLETED), .val (.int 1), .val (.ref b64), .val (.ref b65), .val (.ref b66)] [(.ref b66)])) _
    refine st32.trans ?_
    show Steps p.tables e below (T32.setTop (mkF m 128 #[.val (.int p0), .val (.int p1), .val (.int p2), .val (.int p3), .val (.int 2), .val (.ref a_COMPLETED), .val (.int 1), .val (.ref b64), .val (.ref b65), .val (.ref b66)] [(.ref a_FAILED)])) _
    refine st33.trans ?_
    refine XS.ifNo X33.here hx rfl (hb hby at_131) rfl (by decide) ?_
    refine XS.iconst X33.here hx rfl (hb hby at_134) ?_
    refine XS.goto X33.here hx rfl (pc0 := 135) (pc' := 139) rfl (hb hby at_135) (by decide) (by decide) ?_
    show Steps p.tables e below (T33.setTop (mkF m 139 #[.val (.int p0), .val (.int p1), .val (.int p2), .val (.int p3), .val (.int 2), .val (.ref a_COMPLETED), .val (.int 1), .val (.ref b64), .val (.ref b65), .val (.ref b66)] [(.int 1)])) _
    exact retN X33 hx (t := .boolean) Bd.returns (by simp) (hb hby at_139) hr
  · show QT n0 _ T33.heap _
    rw [e33]
    exact ⟨rfl, N33⟩
theorem tw_66 {a0 : Array Value} {Z : State} (hw : ∀ d ∈ tables_1, d.before a0 Z = true) : (Jvm.Cond.fieldLink "com/example/corestone/corestone/StatusEndedPinLaw" (19 : Nat) "com/example/corestone/corestone/BulkRequest$Status" "FAILED" "Lcom/example/corestone/corestone/BulkRequest$Status;").before a0 Z = true := hw _ (List.mem_of_getElem? (i := 66) rfl)
set_option maxRecDepth 65536 in
set_option maxHeartbeats 40000000 in
theorem rm0_71 (l : Launch) (Z : State) (a0 : Array Value) (hw : ∀ d ∈ tables_1, d.before a0 Z = true) (ws : List Jvm.Cond) (p0 : Int32) (p1 : Int32) (p2 : Int32) (p3 : Int32) (a_FAILED : Addr) (a_QUEUED : Addr) (a_RUNNING : Addr) (a_COMPLETED : Addr) (h0 : Heap) (n0 : Nat) (Z0 : n0 ≤ h0.size) (f1 : (p0 &&& (3 : Int32)) = (3 : Int32)) (f2 : S_3 Z h0 (.ref a_FAILED)) (f3 : S_0 Z h0 (.ref a_QUEUED)) (f4 : S_1 Z h0 (.ref a_RUNNING)) (f5 : (0 : Int32) < (((0 : Int32) + p1) + ((0 : Int32) + p2))) (f6 : S_2 Z h0 (.ref a_COMPLETED)) (f7 : a_COMPLETED ≠ a_FAILED) (f8 : E_0 Z h0 a_FAILED) (f9 : a_QUEUED ≠ a_COMPLETED) (f10 : a_QUEUED ≠ a_FAILED) (f11 : E_0 Z h0 a_QUEUED) (f12 : a_COMPLETED ≠ a_RUNNING) (f13 : a_FAILED ≠ a_RUNNING) (f14 : E_0 Z h0 a_RUNNING) (f15 : E_0 Z h0 a_COMPLETED) :
    MetFree l x (head1 (Jvm.Cond.code x code maxLocals ret :: ws) room_1) (fun a U => a = #[(.int p0), (.int p1), (.int p2), (.int p3)] ∧ Z.Warmed39 U.vm ∧ U.heap = h0) (fun _ _ _ _ _ => True) (fun _ U o U' => ∃ v L, o = .returned v ∧ QT n0 v U'.heap L ∧ FrameEnd U o U' L room_1.cells room_1.slots) := by
  refine MetFree.of_bodySF (plainFor_of_name pn_com_example_corestone_corestone_StatusEndedPinLaw) hisR ?_
  intro p e s m args below meth c s₁ Bd hml0 hP hK
  obtain ⟨rfl, hZ, hh⟩ := hP
  have hx := Bd.exec
  have hby := Bd.bytes
  have hml : c.maxLocals = 10 := hml0
  have hown : s.vm.findClass "com/example/corestone/corestone/StatusEndedPinLaw" = some m.cls := findClass_of_methodNamed Bd.named
  have hnm := (name_of_methodNamed Bd.named Bd.method).1
  have X0 : Stand p l e room_1 s m #[(.int p0), (.int p1), (.int p2), (.int p3)] below meth c s₁ [] 0 0 := Stand.of_body Bd
  have e0 : s₁.heap = h0 := by rw [← hh, Bd.state]; rfl
  have N0 := Fr.nil n0
  obtain ⟨T1, X1, e1, st1⟩ := getS2 X0 hx hZ hown (host := "") (Or.inl (tw_66 hw)) Via.refl e0 f2 (g := (mkF m 55 #[.val (.int p0), .val (.int p1), .val (.int p2), .val (.int p3), .val (.int 3), .unset, .unset, .unset, .unset, .unset] [])) rfl (hb hby at_55)
  -- pc 67: com/example/corestone/corestone/BulkRequest.queued
  obtain ⟨_, _, ⟨T2, L2, k2, n2⟩, -, X2, ⟨Lc2, hQ2, l2, y2, z2⟩, st2⟩ := Jvm.LawKit.callS X1 hx (y := M_2) hown (mvT hZ (tw_3 hw)) (mvT hZ (tw_4 hw)) (mvT hZ (tw_5 hw)) (mvT hZ (tw_6 hw)) (by decide) (backOf (W := 0) (rm1_19 l Z a0 hw [] a_QUEUED h0 n0 Z0 f3) hZ (tw_6 hw) (tw_5 hw) (by decide) (by decide)) (g := (mkF m 67 #[.val (.int p0), .val (.int p1), .val (.int p2), .val (.int p3), .val (.int 3), .val (.ref a_FAILED), .val (.int 1), .unset, .unset, .unset] [.null, (.int 0), .null, .null])) rfl (by rw [hml]; rfl) (argsL := [.null, .null, (.int 0), .null]) (rest := []) (lenOf pd_2 rfl) rfl (by show 2 * 0 + _ ≤ _; exact Nat.le_of_eq rfl) (hb hby at_67) (fun _ _ => ⟨rfl, e1, (by decide : 0 + 1 ≤ _), (by decide : 0 + 9 ≤ _)⟩)
  dsimp only [Pt.U, Pt.locs, Pt.cells, Pt.slots] at X2 l2 y2 z2 st2 hQ2
  subst l2 y2 z2
  obtain ⟨b68, rfl, Nq2, K2, le_b68, o2_0, o2_1, o2_2, o2_3, o2_4, o2_5, o2_6, o2_7, o2_8, o2_9⟩ := hQ2
  have N2 := Fr.app N0 Nq2
  have sz_b68 : h0.size ≤ b68 := Nat.le_trans (Nat.le_refl _) le_b68
  have g_b68 : n0 ≤ b68 := Nat.le_trans Z0 sz_b68
  have KK2 : Keep h0 T2.heap [] := (Keep.refl h0 []).trans K2 (fun x hx => nomatch hx)
  -- pc 78: com/example/corestone/corestone/BulkRequest.running
  have u3 : S_1 Z T2.heap (.ref a_RUNNING) := own_sta_keep f4 K2 (fun _ q => nomatch q)
  obtain ⟨cq4, kq4, q4a, q4b, q4c⟩ := isOf hZ rfl o2_0
  obtain ⟨_, _, ⟨T4, L4, k4, n4⟩, -, X4, ⟨Lc4, hQ4, l4, y4, z4⟩, st4⟩ := X2.virtualBack hx (y := M_3) (z := M_3) hown (mvT hZ (tw_39 hw)) (mvT hZ (tw_40 hw)) (notFace_of_selects (args := #[]) (mvT hZ (tw_42 hw))) (mvT hZ (tw_42 hw)) (mvT hZ (tw_41 hw)) (by decide) (backOf (W := 0) (rm5_25 l Z a0 hw [] b68 p1 p2 p3 a_RUNNING T2.heap n0 (Nat.le_trans Z0 KK2.1) o2_1 o2_2 u3 o2_4 o2_6 o2_7 o2_8 o2_9) hZ (tw_43 hw) (tw_5 hw) (by decide) (by decide)) q4a q4c (g := (mkF m 78 #[.val (.int p0), .val (.int p1), .val (.int p2), .val (.int p3), .val (.int 3), .val (.ref a_FAILED), .val (.int 1), .val (.ref b68), .unset, .unset] [.null, (.int p3), (.int p2), (.int p1), (.ref b68)])) rfl (by rw [hml]; rfl) (Steps.refl _) (argsL := [(.int p1), (.int p2), (.int p3), .null]) (rest := []) (lenOf pd_3 rfl) rfl (by show 2 * 0 + _ ≤ _; exact Nat.le_of_eq rfl) (hb hby at_78) (fun _ _ => ⟨rfl, rfl, (by decide : 1 + 1 ≤ _), (by decide : 9 + 9 ≤ _)⟩)
  dsimp only [Pt.U, Pt.locs, Pt.cells, Pt.slots] at X4 l4 y4 z4 st4 hQ4
  subst l4 y4 z4
  obtain ⟨b69, rfl, Nq4, K4, le_b69, o4_0, o4_1, o4_2, o4_3, o4_4, o4_5, o4_6, o4_7, o4_8, o4_9⟩ := hQ4
  have N4 := Fr.app N2 Nq4
  have sz_b69 : h0.size ≤ b69 := Nat.le_trans KK2.1 le_b69
  have g_b69 : n0 ≤ b69 := Nat.le_trans Z0 sz_b69
  have KK4 : Keep h0 T4.heap [] := KK2.trans K4 (fun x hx => nomatch hx)
  -- pc 86: com/example/corestone/corestone/BulkRequest.ended
  have u5 : S_2 Z T2.heap (.ref a_COMPLETED) := own_sta_keep f6 K2 (fun _ q => nomatch q)
  have u6 : S_2 Z T4.heap (.ref a_COMPLETED) := own_sta_keep u5 K4 (fun _ q => nomatch q)
  obtain ⟨cq7, kq7, q7a, q7b, q7c⟩ := isOf hZ rfl o4_0
  obtain ⟨_, _, ⟨T7, L7, k7, n7⟩, -, X7, ⟨Lc7, hQ7, l7, y7, z7⟩, st7⟩ := X4.virtualBack hx (y := M_4) (z := M_4) hown (mvT hZ (tw_46 hw)) (mvT hZ (tw_47 hw)) (notFace_of_selects (args := #[]) (mvT hZ (tw_49 hw))) (mvT hZ (tw_49 hw)) (mvT hZ (tw_48 hw)) (by decide) (backOf (W := 0) (rm6_31 l Z a0 hw [] b69 p1 p2 a_COMPLETED p3 T4.heap n0 (Nat.le_trans Z0 KK4.1) o4_1 o4_2 o4_7 o4_8 f5 u6 o4_4 o4_6 o4_9) hZ (tw_50 hw) (tw_5 hw) (by decide) (by decide)) q7a q7c (g := (mkF m 86 #[.val (.int p0), .val (.int p1), .val (.int p2), .val (.int p3), .val (.int 3), .val (.ref a_FAILED), .val (.int 1), .val (.ref b68), .val (.ref b69), .unset] [.null, (.ref b69)])) rfl (by rw [hml]; rfl) (Steps.refl _) (argsL := [.null]) (rest := []) (lenOf pd_4 rfl) rfl (by show 2 * 0 + _ ≤ _; exact Nat.le_of_eq rfl) (hb hby at_86) (fun _ _ => ⟨rfl, rfl, (by decide : 2 + 1 ≤ _), (by decide : 18 + 9 ≤ _)⟩)
  dsimp only [Pt.U, Pt.locs, Pt.cells, Pt.slots] at X7 l7 y7 z7 st7 hQ7
  subst l7 y7 z7
  obtain ⟨b70, rfl, Nq7, K7, le_b70, o7_0, o7_1, o7_2, o7_3, o7_4, o7_5, o7_6, o7_7, o7_8, o7_9⟩ := hQ7
  have N7 := Fr.app N4 Nq7
  have sz_b70 : h0.size ≤ b70 := Nat.le_trans KK4.1 le_b70
  have g_b70 : n0 ≤ b70 := Nat.le_trans Z0 sz_b70
  have KK7 : Keep h0 T7.heap [] := KK4.trans K7 (fun x hx => nomatch hx)
  -- pc 93: com/example/corestone/corestone/BulkRequest$Status.ended
  have u8 : S_2 Z T7.heap (.ref a_COMPLETED) := own_sta_keep u6 K7 (fun _ q => nomatch q)
  have u9 : S_3 Z T2.heap (.ref a_FAILED) := own_sta_keep f2 K2 (fun _ q => nomatch q)
  have u10 : S_3 Z T4.heap (.ref a_FAILED) := own_sta_keep u9 K4 (fun _ q => nomatch q)
  have u11 : S_3 Z T7.heap (.ref a_FAILED) := own_sta_keep u10 K7 (fun _ q => nomatch q)
  have u13 : E_0 Z T2.heap a_FAILED := Exa.keep f8 K2
  have u14 : E_0 Z T4.heap a_FAILED := Exa.keep u13 K4
  have u15 : E_0 Z T7.heap a_FAILED := Exa.keep u14 K7
  obtain ⟨cq12, kq12, q12a, q12b, q12c⟩ := isOf hZ rfl u15
  obtain ⟨_, _, ⟨T12, L12, k12, n12⟩, -, X12, ⟨Lc12, hQ12, l12, y12, z12⟩, st12⟩ := X7.virtualBack hx (y := M_5) (z := M_5) hown (mvT hZ (tw_53 hw)) (mvT hZ (tw_54 hw)) (notFace_of_selects (args := #[]) (mvT hZ (tw_56 hw))) (mvT hZ (tw_56 hw)) (mvT hZ (tw_55 hw)) (by decide) (backOf (W := 0) (rm7_50 l Z a0 hw [] a_FAILED a_COMPLETED T7.heap n0 (Nat.le_trans Z0 KK7.1) u8 f7 u11) hZ (tw_57 hw) (tw_1 hw) (by decide) (by decide)) q12a q12c (g := (mkF m 93 #[.val (.int p0), .val (.int p1), .val (.int p2), .val (.int p3), .val (.int 3), .val (.ref a_FAILED), .val (.int 1), .val (.ref b68), .val (.ref b69), .val (.ref b70)] [(.ref a_FAILED)])) rfl (by rw [hml]; rfl) (Steps.refl _) (argsL := []) (rest := []) (lenOf pd_5 rfl) rfl (by show 2 * 0 + _ ≤ _; exact Nat.le_of_eq rfl) (hb hby at_93) (fun _ _ => ⟨rfl, rfl, (by decide : 3 + 0 ≤ _), (by decide : 27 + 0 ≤ _)⟩)
  dsimp only [Pt.U, Pt.locs, Pt.cells, Pt.slots] at X12 l12 y12 z12 st12 hQ12
  subst l12 y12 z12
  obtain ⟨rfl, Nq12, e12⟩ := hQ12
  have N12 := Fr.app N7 Nq12
  -- pc 103: com/example/corestone/corestone/BulkRequest.status
  have u16 : F_3 Z T4.heap b68 (.ref a_QUEUED) := Fld.keep o2_3 K4 List.not_mem_nil
  have u17 : F_3 Z T7.heap b68 (.ref a_QUEUED) := Fld.keep u16 K7 List.not_mem_nil
  have u19 : E_1 Z T4.heap b68 := Exa.keep o2_0 K4
  have u20 : E_1 Z T7.heap b68 := Exa.keep u19 K7
  obtain ⟨cq18, kq18, q18a, q18b, q18c⟩ := isOf hZ e12 u20
  obtain ⟨_, _, ⟨T18, L18, k18, n18⟩, -, X18, ⟨Lc18, hQ18, l18, y18, z18⟩, st18⟩ := X12.virtualBack hx (y := M_6) (z := M_6) hown (mvT hZ (tw_61 hw)) (mvT hZ (tw_62 hw)) (notFace_of_selects (args := #[]) (mvT hZ (tw_64 hw))) (mvT hZ (tw_64 hw)) (mvT hZ (tw_63 hw)) (by decide) (backOf (W := 0) (rm8_35 l Z a0 hw [] b68 a_QUEUED T7.heap n0 (Nat.le_trans Z0 KK7.1) u17) hZ (tw_65 hw) (tw_5 hw) (by decide) (by decide)) q18a q18c (g := (mkF m 103 #[.val (.int p0), .val (.int p1), .val (.int p2), .val (.int p3), .val (.int 3), .val (.ref a_FAILED), .val (.int 1), .val (.ref b68), .val (.ref b69), .val (.ref b70)] [(.ref b68)])) rfl (by rw [hml]; rfl) (Steps.refl _) (argsL := []) (rest := []) (lenOf pd_6 rfl) rfl (by show 2 * 0 + _ ≤ _; exact Nat.le_of_eq rfl) (hb hby at_103) (fun _ _ => ⟨rfl, e12, (by decide : 3 + 0 ≤ _), (by decide : 27 + 0 ≤ _)⟩)
  dsimp only [Pt.U, Pt.locs, Pt.cells, Pt.slots] at X18 l18 y18 z18 st18 hQ18
  subst l18 y18 z18
  obtain ⟨rfl, Nq18, e18⟩ := hQ18
  have N18 := Fr.app N12 Nq18
  -- pc 106: com/example/corestone/corestone/BulkRequest$Status.ended
  have u22 : E_0 Z T2.heap a_QUEUED := Exa.keep f11 K2
  have u23 : E_0 Z T4.heap a_QUEUED := Exa.keep u22 K4
  have u24 : E_0 Z T7.heap a_QUEUED := Exa.keep u23 K7
  obtain ⟨cq21, kq21, q21a, q21b, q21c⟩ := isOf hZ e18 u24
  obtain ⟨_, _, ⟨T21, L21, k21, n21⟩, -, X21, ⟨Lc21, hQ21, l21, y21, z21⟩, st21⟩ := X18.virtualBack hx (y := M_5) (z := M_5) hown (mvT hZ (tw_53 hw)) (mvT hZ (tw_54 hw)) (notFace_of_selects (args := #[]) (mvT hZ (tw_56 hw))) (mvT hZ (tw_56 hw)) (mvT hZ (tw_55 hw)) (by decide) (backOf (W := 0) (rm7_34 l Z a0 hw [] a_QUEUED a_COMPLETED a_FAILED T7.heap n0 (Nat.le_trans Z0 KK7.1) u8 f9 u11 f10) hZ (tw_57 hw) (tw_1 hw) (by decide) (by decide)) q21a q21c (g := (mkF m 106 #[.val (.int p0), .val (.int p1), .val (.int p2), .val (.int p3), .val (.int 3), .val (.ref a_FAILED), .val (.int 1), .val (.ref b68), .val (.ref b69), .val (.ref b70)] [(.ref a_QUEUED)])) rfl (by rw [hml]; rfl) (Steps.refl _) (argsL := []) (rest := []) (lenOf pd_5 rfl) rfl (by show 2 * 0 + _ ≤ _; exact Nat.le_of_eq rfl) (hb hby at_106) (fun _ _ => ⟨rfl, e18, (by decide : 3 + 0 ≤ _), (by decide : 27 + 0 ≤ _)⟩)
  dsimp only [Pt.U, Pt.locs, Pt.cells, Pt.slots] at X21 l21 y21 z21 st21 hQ21
  subst l21 y21 z21
  obtain ⟨rfl, Nq21, e21⟩ := hQ21
  have N21 := Fr.app N18 Nq21
  -- pc 114: com/example/corestone/corestone/BulkRequest.status
  have u25 : F_3 Z T7.heap b69 (.ref a_RUNNING) := Fld.keep o4_3 K7 List.not_mem_nil
  have u27 : E_1 Z T7.heap b69 := Exa.keep o4_0 K7
  obtain ⟨cq26, kq26, q26a, q26b, q26c⟩ := isOf hZ e21 u27
  obtain ⟨_, _, ⟨T26, L26, k26, n26⟩, -, X26, ⟨Lc26, hQ26, l26, y26, z26⟩, st26⟩ := X21.virtualBack hx (y := M_6) (z := M_6) hown (mvT hZ (tw_61 hw)) (mvT hZ (tw_62 hw)) (notFace_of_selects (args := #[]) (mvT hZ (tw_64 hw))) (mvT hZ (tw_64 hw)) (mvT hZ (tw_63 hw)) (by decide) (backOf (W := 0) (rm8_36 l Z a0 hw [] b69 a_RUNNING T7.heap n0 (Nat.le_trans Z0 KK7.1) u25) hZ (tw_65 hw) (tw_5 hw) (by decide) (by decide)) q26a q26c (g := (mkF m 114 #[.val (.int p0), .val (.int p1), .val (.int p2), .val (.int p3), .val (.int 3), .val (.ref a_FAILED), .val (.int 1), .val (.ref b68), .val (.ref b69), .val (.ref b70)] [(.ref b69)])) rfl (by rw [hml]; rfl) (Steps.refl _) (argsL := []) (rest := []) (lenOf pd_6 rfl) rfl (by show 2 * 0 + _ ≤ _; exact Nat.le_of_eq rfl) (hb hby at_114) (fun _ _ => ⟨rfl, e21, (by decide : 3 + 0 ≤ _), (by decide : 27 + 0 ≤ _)⟩)
  dsimp only [Pt.U, Pt.locs, Pt.cells, Pt.slots] at X26 l26 y26 z26 st26 hQ26
  subst l26 y26 z26
  obtain ⟨rfl, Nq26, e26⟩ := hQ26
  have N26 := Fr.app N21 Nq26
  -- pc 117: com/example/corestone/corestone/BulkRequest$Status.ended
  have u29 : E_0 Z T2.heap a_RUNNING := Exa.keep f14 K2
  have u30 : E_0 Z T4.heap a_RUNNING := Exa.keep u29 K4
  have u31 : E_0 Z T7.heap a_RUNNING := Exa.keep u30 K7
  obtain ⟨cq28, kq28, q28a, q28b, q28c⟩ := isOf hZ e26 u31
  obtain ⟨_, _, ⟨T28, L28, k28, n28⟩, -, X28, ⟨Lc28, hQ28, l28, y28, z28⟩, st28⟩ := X26.virtualBack hx (y := M_5) (z := M_5) hown (mvT hZ (tw_53 hw)) (mvT hZ (tw_54 hw)) (notFace_of_selects (args := #[]) (mvT hZ (tw_56 hw))) (mvT hZ (tw_56 hw)) (mvT hZ (tw_55 hw)) (by decide) (backOf (W := 0) (rm7_37 l Z a0 hw [] a_RUNNING a_COMPLETED a_FAILED T7.heap n0 (Nat.le_trans Z0 KK7.1) u8 f12 u11 f13) hZ (tw_57 hw) (tw_1 hw) (by decide) (by decide)) q28a q28c (g := (mkF m 117 #[.val (.int p0), .val (.int p1), .val (.int p2), .val (.int p3), .val (.int 3), .val (.ref a_FAILED), .val (.int 1), .val (.ref b68), .val (.ref b69), .val (.ref b70)] [(.ref a_RUNNING)])) rfl (by rw [hml]; rfl) (Steps.refl _) (argsL := []) (rest := []) (lenOf pd_5 rfl) rfl (by show 2 * 0 + _ ≤ _; exact Nat.le_of_eq rfl) (hb hby at_117) (fun _ _ => ⟨rfl, e26, (by decide : 3 + 0 ≤ _), (by decide : 27 + 0 ≤ _)⟩)
  dsimp only [Pt.U, Pt.locs, Pt.cells, Pt.slots] at X28 l28 y28 z28 st28 hQ28
  subst l28 y28 z28
  obtain ⟨rfl, Nq28, e28⟩ := hQ28
  have N28 := Fr.app N26 Nq28
  -- pc 125: com/example/corestone/corestone/BulkRequest.status
  obtain ⟨cq32, kq32, q32a, q32b, q32c⟩ := isOf hZ e28 o7_0
  obtain ⟨_, _, ⟨T32, L32, k32, n32⟩, -, X32, ⟨Lc32, hQ32, l32, y32, z32⟩, st32⟩ := X28.virtualBack hx (y := M_6) (z := M_6) hown (mvT hZ (tw_61 hw)) (mvT hZ (tw_62 hw)) (notFace_of_selects (args := #[]) (mvT hZ (tw_64 hw))) (mvT hZ (tw_64 hw)) (mvT hZ (tw_63 hw)) (by decide) (backOf (W := 0) (rm8_38 l Z a0 hw [] b70 a_COMPLETED T7.heap n0 (Nat.le_trans Z0 KK7.1) o7_3) hZ (tw_65 hw) (tw_5 hw) (by decide) (by decide)) q32a q32c (g := (mkF m 125 #[.val (.int p0), .val (.int p1), .val (.int p2), .val (.int p3), .val (.int 3), .val (.ref a_FAILED), .val (.int 1), .val (.ref b68), .val (.ref b69), .val (.ref b70)] [(.ref b70)])) rfl (by rw [hml]; rfl) (Steps.refl _) (argsL := []) (rest := []) (lenOf pd_6 rfl) rfl (by show 2 * 0 + _ ≤ _; exact Nat.le_of_eq rfl) (hb hby at_125) (fun _ _ => ⟨rfl, e28, (by decide : 3 + 0 ≤ _), (by decide : 27 + 0 ≤ _)⟩)
  dsimp only [Pt.U, Pt.locs, Pt.cells, Pt.slots] at X32 l32 y32 z32 st32 hQ32
  subst l32 y32 z32
  obtain ⟨rfl, Nq32, e32⟩ := hQ32
  have N32 := Fr.app N28 Nq32
  -- pc 128: com/example/corestone/corestone/BulkRequest$Status.ended
  have u34 : E_0 Z T2.heap a_COMPLETED := Exa.keep f15 K2
  have u35 : E_0 Z T4.heap a_COMPLETED := Exa.keep u34 K4
  have u36 : E_0 Z T7.heap a_COMPLETED := Exa.keep u35 K7
  obtain ⟨cq33, kq33, q33a, q33b, q33c⟩ := isOf hZ e32 u36
  obtain ⟨_, _, ⟨T33, L33, k33, n33⟩, -, X33, ⟨Lc33, hQ33, l33, y33, z33⟩, st33⟩ := X32.virtualBack hx (y := M_5) (z := M_5) hown (mvT hZ (tw_53 hw)) (mvT hZ (tw_54 hw)) (notFace_of_selects (args := #[]) (mvT hZ (tw_56 hw))) (mvT hZ (tw_56 hw)) (mvT hZ (tw_55 hw)) (by decide) (backOf (W := 0) (rm7_39 l Z a0 hw [] a_COMPLETED T7.heap n0 (Nat.le_trans Z0 KK7.1) u8) hZ (tw_57 hw) (tw_1 hw) (by decide) (by decide)) q33a q33c (g := (mkF m 128 #[.val (.int p0), .val (.int p1), .val (.int p2), .val (.int p3), .val (.int 3), .val (.ref a_FAILED), .val (.int 1), .val (.ref b68), .val (.ref b69), .val (.ref b70)] [(.ref a_COMPLETED)])) rfl (by rw [hml]; rfl) (Steps.refl _) (argsL := []) (rest := []) (lenOf pd_5 rfl) rfl (by show 2 * 0 + _ ≤ _; exact Nat.le_of_eq rfl) (hb hby at_128) (fun _ _ => ⟨rfl, e32, (by decide : 3 + 0 ≤ _), (by decide : 27 + 0 ≤ _)⟩)
  dsimp only [Pt.U, Pt.locs, Pt.cells, Pt.slots] at X33 l33 y33 z33 st33 hQ33
  subst l33 y33 z33
  obtain ⟨rfl, Nq33, e33⟩ := hQ33
  have N33 := Fr.app N32 Nq33
  obtain ⟨fs, hr, hrun, hended, hW, hsame⟩ := X33.leave (v := (some (.int 1))) (fun h => by rw [Bd.returns] at h; cases h)
  refine ⟨_, _, castTop (ef0_IIII m p0 p1 p2 p3) ?_, hrun, hended, _, _, rfl, ?_, ⟨_, rfl⟩, hW, hsame.mono (by decide) (by decide)⟩
  · show Steps p.tables e below (s₁.setTop (mkF m 0 #[.val (.int p0), .val (.int p1), .val (.int p2), .val (.int p3), .unset, .unset, .unset, .unset, .unset, .unset] [])) _
    refine XS.iloadN X0.here hx rfl (hb hby at_0) rfl ?_
    refine XS.iconst X0.here hx rfl (hb hby at_1) ?_
    show Steps p.tables e below (s₁.setTop (mkF m 2 #[.val (.int p0), .val (.int p1), .val (.int p2), .val (.int p3), .unset, .unset, .unset, .unset, .unset, .unset] [(.int 3), (.int p0)])) _
    refine XS.iand X0.here hx rfl (hb hby at_2) rfl ?_
    show Steps p.tables e below (s₁.setTop (mkF m 3 #[.val (.int p0), .val (.int p1), .val (.int p2), .val (.int p3), .unset, .unset, .unset, .unset, .unset, .unset] [(.int (p0 &&& (3 : Int32)))])) _
    rw [f1]
    refine XS.istore X0.here hx rfl (hb hby at_3) rfl (l' := #[.val (.int p0), .val (.int p1), .val (.int p2), .val (.int p3), .val (.int 3), .unset, .unset, .unset, .unset, .unset]) rfl ?_
    refine XS.iload X0.here hx rfl (hb hby at_5) rfl ?_
    refine XS.ifYes X0.here hx rfl (pc0 := 7) (pc' := 21) rfl (hb hby at_7) rfl (by decide) (by decide) (by decide) ?_
    refine XS.iload X0.here hx rfl (hb hby at_21) rfl ?_
    show Steps p.tables e below (s₁.setTop (mkF m 23 #[.val (.int p0), .val (.int p1), .val (.int p2), .val (.int p3), .val (.int 3), .unset, .unset, .unset, .unset, .unset] [(.int 3)])) _
    refine XS.iconst X0.here hx rfl (hb hby at_23) ?_
    refine XS.icmpYes X0.here hx rfl (pc0 := 24) (pc' := 38) rfl (hb hby at_24) rfl (by decide) (by decide) (by decide) ?_
    refine XS.iload X0.here hx rfl (hb hby at_38) rfl ?_
    refine XS.iconst X0.here hx rfl (hb hby at_40) ?_
    refine XS.icmpYes X0.here hx rfl (pc0 := 41) (pc' := 55) rfl (hb hby at_41) rfl (by decide) (by decide) (by decide) ?_
    show Steps p.tables e below (s₁.setTop (mkF m 55 #[.val (.int p0), .val (.int p1), .val (.int p2), .val (.int p3), .val (.int 3), .unset, .unset, .unset, .unset, .unset] [])) _
    refine st1 _ ?_
    refine XS.astore X1.here hx rfl (hb hby at_58) rfl rfl (l' := #[.val (.int p0), .val (.int p1), .val (.int p2), .val (.int p3), .val (.int 3), .val (.ref a_FAILED), .unset, .unset, .unset, .unset]) rfl ?_
    refine XS.iconst X1.here hx rfl (hb hby at_60) ?_
    refine XS.istore X1.here hx rfl (hb hby at_61) rfl (l' := #[.val (.int p0), .val (.int p1), .val (.int p2), .val (.int p3), .val (.int 3), .val (.ref a_FAILED), .val (.int 1), .unset, .unset, .unset]) rfl ?_
    refine XS.aconstNull X1.here hx rfl (hb hby at_63) ?_
    show Steps p.tables e below (T1.setTop (mkF m 64 #[.val (.int p0), .val (.int p1), .val (.int p2), .val (.int p3), .val (.int 3), .val (.ref a_FAILED), .val (.int 1), .unset, .unset, .unset] [.null])) _
    refine XS.aconstNull X1.here hx rfl (hb hby at_64) ?_
    refine XS.iconst X1.here hx rfl (hb hby at_65) ?_
    refine XS.aconstNull X1.here hx rfl (hb hby at_66) ?_
    show Steps p.tables e below (T1.setTop (mkF m 67 #[.val (.int p0), .val (.int p1), .val (.int p2), .val (.int p3), .val (.int 3), .val (.ref a_FAILED), .val (.int 1), .unset, .unset, .unset] [.null, (.int 0), .null, .null])) _
    refine st2 _ ?_
    refine XS.astore X2.here hx rfl (hb hby at_70) rfl rfl (l' := #[.val (.int p0), .val (.int p1), .val (.int p2), .val (.int p3), .val (.int 3), .val (.ref a_FAILED), .val (.int 1), .val (.ref b68), .unset, .unset]) rfl ?_
    refine XS.aload X2.here hx rfl (hb hby at_72) rfl rfl ?_
    refine XS.iloadN X2.here hx rfl (hb hby at_74) rfl ?_
    refine XS.iloadN X2.here hx rfl (hb hby at_75) rfl ?_
    show Steps p.tables e below (T2.setTop (mkF m 76 #[.val (.int p0), .val (.int p1), .val (.int p2), .val (.int p3), .val (.int 3), .val (.ref a_FAILED), .val (.int 1), .val (.ref b68), .unset, .unset] [(.int p2), (.int p1), (.ref b68)])) _
    refine XS.iloadN X2.here hx rfl (hb hby at_76) rfl ?_
    refine XS.aconstNull X2.here hx rfl (hb hby at_77) ?_
    show Steps p.tables e below (T2.setTop (mkF m 78 #[.val (.int p0), .val (.int p1), .val (.int p2), .val (.int p3), .val (.int 3), .val (.ref a_FAILED), .val (.int 1), .val (.ref b68), .unset, .unset] [.null, (.int p3), (.int p2), (.int p1), (.ref b68)])) _
    refine st4.trans ?_
    refine XS.astore X4.here hx rfl (hb hby at_81) rfl rfl (l' := #[.val (.int p0), .val (.int p1), .val (.int p2), .val (.int p3), .val (.int 3), .val (.ref a_FAILED), .val (.int 1), .val (.ref b68), .val (.ref b69), .unset]) rfl ?_
    refine XS.aload X4.here hx rfl (hb hby at_83) rfl rfl ?_
    refine XS.aconstNull X4.here hx rfl (hb hby at_85) ?_
    show Steps p.tables e below (T4.setTop (mkF m 86 #[.val (.int p0), .val (.int p1), .val (.int p2), .val (.int p3), .val (.int 3), .val (.ref a_FAILED), .val (.int 1), .val (.ref b68), .val (.ref b69), .unset] [.null, (.ref b69)])) _
    refine st7.trans ?_
    refine XS.astore X7.here hx rfl (hb hby at_89) rfl rfl (l' := #[.val (.int p0), .val (.int p1), .val (.int p2), .val (.int p3), .val (.int 3), .val (.ref a_FAILED), .val (.int 1), .val (.ref b68), .val (.ref b69), .val (.ref b70)]) rfl ?_
    refine XS.aload X7.here hx rfl (hb hby at_91) rfl rfl ?_
    show Steps p.tables e below (T7.setTop (mkF m 93 #[.val (.int p0), .val (.int p1), .val (.int p2), .val (.int p3), .val (.int 3), .val (.ref a_FAILED), .val (.int 1), .val (.ref b68), .val (.ref b69), .val (.ref b70)] [(.ref a_FAILED)])) _
    refine st12.trans ?_
    refine XS.iload X12.here hx rfl (hb hby at_96) rfl ?_
    refine XS.icmpNo X12.here hx rfl (hb hby at_98) rfl (by decide) ?_
    refine XS.aload X12.here hx rfl (hb hby at_101) rfl rfl ?_
    show Steps p.tables e below (T12.setTop (mkF m 103 #[.val (.int p0), .val (.int p1), .val (.int p2), .val (.int p3), .val (.int 3), .val (.ref a_FAILED), .val (.int 1), .val (.ref b68), .val (.ref b69), .val (.ref b70)] [(.ref b68)])) _
    refine st18.trans ?_
    show Steps p.tables e below (T18.setTop (mkF m 106 #[.val (.int p0), .val (.int p1), .val (.int p2), .val (.int p3), .val (.int 3), .val (.ref a_FAILED), .val (.int 1), .val (.ref b68), .val (.ref b69), .val (.ref b70)] [(.ref a_QUEUED)])) _
    refine st21.trans ?_
    refine XS.ifNo X21.here hx rfl (hb hby at_109) rfl (by decide) ?_
    refine XS.aload X21.here hx rfl (hb hby at_112) rfl rfl ?_
    show Steps p.tables e below (T21.setTop (mkF m 114 #[.val (.int p0), .val (.int p1), .val (.int p2), .val (.int p3), .val (.int 3), .val (.ref a_FAILED), .val (.int 1), .val (.ref b68), .val (.ref b69), .val (.ref b70)] [(.ref b69)])) _
    refine st26.trans ?_
    show Steps p.tables e below (T26.setTop (mkF m 117 #[.val (.int p0), .val (.int p1), .val (.int p2), .val (.int p3), .val (.int 3), .val (.ref a_FAILED), .val (.int 1), .val (.ref b68), .val (.ref b69), .val (.ref b70)] [(.ref a_RUNNING)])) _
    refine st28.trans ?_
    refine XS.ifNo X28.here hx rfl (hb hby at_120) rfl (by decide) ?_
    refine XS.aload X28.here hx rfl (hb hby at_123) rfl rfl ?_
    show Steps p.tables e below (T28.setTop (mkF m 125 #[.val (.int p0), .val (.int p1), .val (.int p2), .val (.int p3), .val (.int 3), .val (.ref a_FAILED), .val (.int 1), .val (.ref b68), .val (.ref b69), .val (.ref b70)] [(.ref b70)])) _
    refine st32.trans ?_
    show Steps p.tables e below (T32.setTop (mkF m 128 #[.val (.int p0), .val (.int p1), .val (.int p2), .val (.int p3), .val (.int 3), .val (.ref a_FAILED), .val (.int 1), .val (.ref b68), .val (.ref b69), .val (.ref b70)] [(.ref a_COMPLETED)])) _
    refine st33.trans ?_
    refine XS.ifNo X33.here hx rfl (hb hby at_131) rfl (by decide) ?_
    refine XS.iconst X33.here hx rfl (hb hby at_134) ?_
    refine XS.goto X33.here hx rfl (pc0 := 135) (pc' := 139) rfl (hb hby at_135) (by decide) (by decide) ?_
    show Steps p.tables e below (T33.setTop (mkF m 139 #[.val (.int p0), .val (.int p1), .val (.int p2), .val (.int p3), .val (.int 3), .val (.ref a_FAILED), .val (.int 1), .val (.ref b68), .val (.ref b69), .val (.ref b70)] [(.int 1)])) _
    exact retN X33 hx (t := .boolean) Bd.returns (by simp) (hb hby at_139) hr
  · show QT n0 _ T33.heap _
    rw [e33]
    exact ⟨rfl, N33⟩
set_option maxRecDepth 65536 in
set_option maxHeartbeats 40000000 in
theorem rm0_75 (l : Launch) (Z : State) (a0 : Array Value) (hw : ∀ d ∈ tables_1, d.before a0 Z = true) (ws : List Jvm.Cond) (p0 : Int32) (p1 : Int32) (p2 : Int32) (p3 : Int32) (a_FAILED : Addr) (a_QUEUED : Addr) (a_RUNNING : Addr) (a_COMPLETED : Addr) (h0 : Heap) (n0 : Nat) (Z0 : n0 ≤ h0.size) (f1 : (p0 &&& (3 : Int32)) = (3 : Int32)) (f2 : S_3 Z h0 (.ref a_FAILED)) (f3 : S_0 Z h0 (.ref a_QUEUED)) (f4 : S_1 Z h0 (.ref a_RUNNING)) (f5 : ¬ ((0 : Int32) < (((0 : Int32) + p1) + ((0 : Int32) + p2)))) (f6 : S_2 Z h0 (.ref a_COMPLETED)) (f7 : a_COMPLETED ≠ a_FAILED) (f8 : E_0 Z h0 a_FAILED) (f9 : a_QUEUED ≠ a_COMPLETED) (f10 : a_QUEUED ≠ a_FAILED) (f11 : E_0 Z h0 a_QUEUED) (f12 : a_COMPLETED ≠ a_RUNNING) (f13 : a_FAILED ≠ a_RUNNING) (f14 : E_0 Z h0 a_RUNNING) :
    MetFree l x (head1 (Jvm.Cond.code x code maxLocals ret :: ws) room_1) (fun a U => a = #[(.int p0), (.int p1), (.int p2), (.int p3)] ∧ Z.Warmed39 U.vm ∧ U.heap = h0) (fun _ _ _ _ _ => True) (fun _ U o U' => ∃ v L, o = .returned v ∧ QT n0 v U'.heap L ∧ FrameEnd U o U' L room_1.cells room_1.slots) := by
  refine MetFree.of_bodySF (plainFor_of_name pn_com_example_corestone_corestone_StatusEndedPinLaw) hisR ?_
  intro p e s m args below meth c s₁ Bd hml0 hP hK
  obtain ⟨rfl, hZ, hh⟩ := hP
  have hx := Bd.exec
  have hby := Bd.bytes
  have hml : c.maxLocals = 10 := hml0
  have hown : s.vm.findClass "com/example/corestone/corestone/StatusEndedPinLaw" = some m.cls := findClass_of_methodNamed Bd.named
  have hnm := (name_of_methodNamed Bd.named Bd.method).1
  have X0 : Stand p l e room_1 s m #[(.int p0), (.int p1), (.int p2), (.int p3)] below meth c s₁ [] 0 0 := Stand.of_body Bd
  have e0 : s₁.heap = h0 := by rw [← hh, Bd.state]; rfl
  have N0 := Fr.nil n0
  obtain ⟨T1, X1, e1, st1⟩ := getS2 X0 hx hZ hown (host := "") (Or.inl (tw_66 hw)) Via.refl e0 f2 (g := (mkF m 55 #[.val (.int p0), .val (.int p1), .val (.int p2), .val (.int p3), .val (.int 3), .unset, .unset, .unset, .unset, .unset] [])) rfl (hb hby at_55)
  -- pc 67: com/example/corestone/corestone/BulkRequest.queued
  obtain ⟨_, _, ⟨T2, L2, k2, n2⟩, -, X2, ⟨Lc2, hQ2, l2, y2, z2⟩, st2⟩ := Jvm.LawKit.callS X1 hx (y := M_2) hown (mvT hZ (tw_3 hw)) (mvT hZ (tw_4 hw)) (mvT hZ (tw_5 hw)) (mvT hZ (tw_6 hw)) (by decide) (backOf (W := 0) (rm1_19 l Z a0 hw [] a_QUEUED h0 n0 Z0 f3) hZ (tw_6 hw) (tw_5 hw) (by decide) (by decide)) (g := (mkF m 67 #[.val (.int p0), .val (.int p1), .val (.int p2), .val (.int p3), .val (.int 3), .val (.ref a_FAILED), .val (.int 1), .unset, .unset, .unset] [.null, (.int 0), .null, .null])) rfl (by rw [hml]; rfl) (argsL := [.null, .null, (.int 0), .null]) (rest := []) (lenOf pd_2 rfl) rfl (by show 2 * 0 + _ ≤ _; exact Nat.le_of_eq rfl) (hb hby at_67) (fun _ _ => ⟨rfl, e1, (by decide : 0 + 1 ≤ _), (by decide : 0 + 9 ≤ _)⟩)
  dsimp only [Pt.U, Pt.locs, Pt.cells, Pt.slots] at X2 l2 y2 z2 st2 hQ2
  subst l2 y2 z2
  obtain ⟨b72, rfl, Nq2, K2, le_b72, o2_0, o2_1, o2_2, o2_3, o2_4, o2_5, o2_6, o2_7, o2_8, o2_9⟩ := hQ2
  have N2 := Fr.app N0 Nq2
  have sz_b72 : h0.size ≤ b72 := Nat.le_trans (Nat.le_refl _) le_b72
  have g_b72 : n0 ≤ b72 := Nat.le_trans Z0 sz_b72
  have KK2 : Keep h0 T2.heap [] := (Keep.refl h0 []).trans K2 (fun x hx => nomatch hx)
  -- pc 78: com/example/corestone/corestone/BulkRequest.running
  have u3 : S_1 Z T2.heap (.ref a_RUNNING) := own_sta_keep f4 K2 (fun _ q => nomatch q)
  obtain ⟨cq4, kq4, q4a, q4b, q4c⟩ := isOf hZ rfl o2_0
  obtain ⟨_, _, ⟨T4, L4, k4, n4⟩, -, X4, ⟨Lc4, hQ4, l4, y4, z4⟩, st4⟩ := X2.virtualBack hx (y := M_3) (z := M_3) hown (mvT hZ (tw_39 hw)) (mvT hZ (tw_40 hw)) (notFace_of_selects (args := #[]) (mvT hZ (tw_42 hw))) (mvT hZ (tw_42 hw)) (mvT hZ (tw_41 hw)) (by decide) (backOf (W := 0) (rm5_25 l Z a0 hw [] b72 p1 p2 p3 a_RUNNING T2.heap n0 (Nat.le_trans Z0 KK2.1) o2_1 o2_2 u3 o2_4 o2_6 o2_7 o2_8 o2_9) hZ (tw_43 hw) (tw_5 hw) (by decide) (by decide)) q4a q4c (g := (mkF m 78 #[.val (.int p0), .val (.int p1), .val (.int p2), .val (.int p3), .val (.int 3), .val (.ref a_FAILED), .val (.int 1), .val (.ref b72), .unset, .unset] [.null, (.int p3), (.int p2), (.int p1), (.ref b72)])) rfl (by rw [hml]; rfl) (Steps.refl _) (argsL := [(.int p1), (.int p2), (.int p3), .null]) (rest := []) (lenOf pd_3 rfl) rfl (by show 2 * 0 + _ ≤ _; exact Nat.le_of_eq rfl) (hb hby at_78) (fun _ _ => ⟨rfl, rfl, (by decide : 1 + 1 ≤ _), (by decide : 9 + 9 ≤ _)⟩)
  dsimp only [Pt.U, Pt.locs, Pt.cells, Pt.slots] at X4 l4 y4 z4 st4 hQ4
  subst l4 y4 z4
  obtain ⟨b73, rfl, Nq4, K4, le_b73, o4_0, o4_1, o4_2, o4_3, o4_4, o4_5, o4_6, o4_7, o4_8, o4_9⟩ := hQ4
  have N4 := Fr.app N2 Nq4
  have sz_b73 : h0.size ≤ b73 := Nat.le_trans KK2.1 le_b73
  have g_b73 : n0 ≤ b73 := Nat.le_trans Z0 sz_b73
  have KK4 : Keep h0 T4.heap [] := KK2.trans K4 (fun x hx => nomatch hx)
  -- pc 86: com/example/corestone/corestone/BulkRequest.ended
  have u5 : S_3 Z T2.heap (.ref a_FAILED) := own_sta_keep f2 K2 (fun _ q => nomatch q)
  have u6 : S_3 Z T4.heap (.ref a_FAILED) := own_sta_keep u5 K4 (fun _ q => nomatch q)
  obtain ⟨cq7, kq7, q7a, q7b, q7c⟩ := isOf hZ rfl o4_0
  obtain ⟨_, _, ⟨T7, L7, k7, n7⟩, -, X7, ⟨Lc7, hQ7, l7, y7, z7⟩, st7⟩ := X4.virtualBack hx (y := M_4) (z := M_4) hown (mvT hZ (tw_46 hw)) (mvT hZ (tw_47 hw)) (notFace_of_selects (args := #[]) (mvT hZ (tw_49 hw))) (mvT hZ (tw_49 hw)) (mvT hZ (tw_48 hw)) (by decide) (backOf (W := 0) (rm6_46 l Z a0 hw [] b73 p1 p2 a_FAILED p3 T4.heap n0 (Nat.le_trans Z0 KK4.1) o4_1 o4_2 o4_7 o4_8 f5 u6 o4_4 o4_6 o4_9) hZ (tw_50 hw) (tw_5 hw) (by decide) (by decide)) q7a q7c (g := (mkF m 86 #[.val (.int p0), .val (.int p1), .val (.int p2), .val (.int p3), .val (.int 3), .val (.ref a_FAILED), .val (.int 1), .val (.ref b72), .val (.ref b73), .unset] [.null, (.ref b73)])) rfl (by rw [hml]; rfl) (Steps.refl _) (argsL := [.null]) (rest := []) (lenOf pd_4 rfl) rfl (by show 2 * 0 + _ ≤ _; exact Nat.le_of_eq rfl) (hb hby at_86) (fun _ _ => ⟨rfl, rfl, (by decide : 2 + 1 ≤ _), (by decide : 18 + 9 ≤ _)⟩)
  dsimp only [Pt.U, Pt.locs, Pt.cells, Pt.slots] at X7 l7 y7 z7 st7 hQ7
  subst l7 y7 z7
  obtain ⟨b74, rfl, Nq7, K7, le_b74, o7_0, o7_1, o7_2, o7_3, o7_4, o7_5, o7_6, o7_7, o7_8, o7_9⟩ := hQ7
  have N7 := Fr.app N4 Nq7
  have sz_b74 : h0.size ≤ b74 := Nat.le_trans KK4.1 le_b74
  have g_b74 : n0 ≤ b74 := Nat.le_trans Z0 sz_b74
  have KK7 : Keep h0 T7.heap [] := KK4.trans K7 (fun x hx => nomatch hx)
  -- pc 93: com/example/corestone/corestone/BulkRequest$Status.ended
  have u8 : S_2 Z T2.heap (.ref a_COMPLETED) := own_sta_keep f6 K2 (fun _ q => nomatch q)
  have u9 : S_2 Z T4.heap (.ref a_COMPLETED) := own_sta_keep u8 K4 (fun _ q => nomatch q)
  have u10 : S_2 Z T7.heap (.ref a_COMPLETED) := own_sta_keep u9 K7 (fun _ q => nomatch q)
  have u11 : S_3 Z T7.heap (.ref a_FAILED) := own_sta_keep u6 K7 (fun _ q => nomatch q)
  have u13 : E_0 Z T2.heap a_FAILED := Exa.keep f8 K2
  have u14 : E_0 Z T4.heap a_FAILED := Exa.keep u13 K4
  have u15 : E_0 Z T7.heap a_FAILED := Exa.keep u14 K7
  obtain ⟨cq12, kq12, q12a, q12b, q12c⟩ := isOf hZ rfl u15
  obtain ⟨_, _, ⟨T12, L12, k12, n12⟩, -, X12, ⟨Lc12, hQ12, l12, y12, z12⟩, st12⟩ := X7.virtualBack hx (y := M_5) (z := M_5) hown (mvT hZ (tw_53 hw)) (mvT hZ (tw_54 hw)) (notFace_of_selects (args := #[]) (mvT hZ (tw_56 hw))) (mvT hZ (tw_56 hw)) (mvT hZ (tw_55 hw)) (by decide) (backOf (W := 0) (rm7_50 l Z a0 hw [] a_FAILED a_COMPLETED T7.heap n0 (Nat.le_trans Z0 KK7.1) u10 f7 u11) hZ (tw_57 hw) (tw_1 hw) (by decide) (by decide)) q12a q12c (g := (mkF m 93 #[.val (.int p0), .val (.int p1), .val (.int p2), .val (.int p3), .val (.int 3), .val (.ref a_FAILED), .val (.int 1), .val (.ref b72), .val (.ref b73), .val (.ref b74)] [(.ref a_FAILED)])) rfl (by rw [hml]; rfl) (Steps.refl _) (argsL := []) (rest := []) (lenOf pd_5 rfl) rfl (by show 2 * 0 + _ ≤ _; exact Nat.le_of_eq rfl) (hb hby at_93) (fun _ _ => ⟨rfl, rfl, (by decide : 3 + 0 ≤ _), (by decide : 27 + 0 ≤ _)⟩)
  dsimp only [Pt.U, Pt.locs, Pt.cells, Pt.slots] at X12 l12 y12 z12 st12 hQ12
  subst l12 y12 z12
  obtain ⟨rfl, Nq12, e12⟩ := hQ12
  have N12 := Fr.app N7 Nq12
  -- pc 103: com/example/corestone/corestone/BulkRequest.status
  have u16 : F_3 Z T4.heap b72 (.ref a_QUEUED) := Fld.keep o2_3 K4 List.not_mem_nil
  have u17 : F_3 Z T7.heap b72 (.ref a_QUEUED) := Fld.keep u16 K7 List.not_mem_nil
  have u19 : E_1 Z T4.heap b72 := Exa.keep o2_0 K4
  have u20 : E_1 Z T7.heap b72 := Exa.keep u19 K7
  obtain ⟨cq18, kq18, q18a, q18b, q18c⟩ := isOf hZ e12 u20
  obtain ⟨_, _, ⟨T18, L18, k18, n18⟩, -, X18, ⟨Lc18, hQ18, l18, y18, z18⟩, st18⟩ := X12.virtualBack hx (y := M_6) (z := M_6) hown (mvT hZ (tw_61 hw)) (mvT hZ (tw_62 hw)) (notFace_of_selects (args := #[]) (mvT hZ (tw_64 hw))) (mvT hZ (tw_64 hw)) (mvT hZ (tw_63 hw)) (by decide) (backOf (W := 0) (rm8_35 l Z a0 hw [] b72 a_QUEUED T7.heap n0 (Nat.le_trans Z0 KK7.1) u17) hZ (tw_65 hw) (tw_5 hw) (by decide) (by decide)) q18a q18c (g := (mkF m 103 #[.val (.int p0), .val (.int p1), .val (.int p2), .val (.int p3), .val (.int 3), .val (.ref a_FAILED), .val (.int 1), .val (.ref b72), .val (.ref b73), .val (.ref b74)] [(.ref b72)])) rfl (by rw [hml]; rfl) (Steps.refl _) (argsL := []) (rest := []) (lenOf pd_6 rfl) rfl (by show 2 * 0 + _ ≤ _; exact Nat.le_of_eq rfl) (hb hby at_103) (fun _ _ => ⟨rfl, e12, (by decide : 3 + 0 ≤ _), (by decide : 27 + 0 ≤ _)⟩)
  dsimp only [Pt.U, Pt.locs, Pt.cells, Pt.slots] at X18 l18 y18 z18 st18 hQ18
  subst l18 y18 z18
  obtain ⟨rfl, Nq18, e18⟩ := hQ18
  have N18 := Fr.app N12 Nq18
  -- pc 106: com/example/corestone/corestone/BulkRequest$Status.ended
  have u22 : E_0 Z T2.heap a_QUEUED := Exa.keep f11 K2
  have u23 : E_0 Z T4.heap a_QUEUED := Exa.keep u22 K4
  have u24 : E_0 Z T7.heap a_QUEUED := Exa.keep u23 K7
  obtain ⟨cq21, kq21, q21a, q21b, q21c⟩ := isOf hZ e18 u24
  obtain ⟨_, _, ⟨T21, L21, k21, n21⟩, -, X21, ⟨Lc21, hQ21, l21, y21, z21⟩, st21⟩ := X18.virtualBack hx (y := M_5) (z := M_5) hown (mvT hZ (tw_53 hw)) (mvT hZ (tw_54 hw)) (notFace_of_selects (args := #[]) (mvT hZ (tw_56 hw))) (mvT hZ (tw_56 hw)) (mvT hZ (tw_55 hw)) (by decide) (backOf (W := 0) (rm7_34 l Z a0 hw [] a_QUEUED a_COMPLETED a_FAILED T7.heap n0 (Nat.le_trans Z0 KK7.1) u10 f9 u11 f10) hZ (tw_57 hw) (tw_1 hw) (by decide) (by decide)) q21a q21c (g := (mkF m 106 #[.val (.int p0), .val (.int p1), .val (.int p2), .val (.int p3), .val (.int 3), .val (.ref a_FAILED), .val (.int 1), .val (.ref b72), .val (.ref b73), .val (.ref b74)] [(.ref a_QUEUED)])) rfl (by rw [hml]; rfl) (Steps.refl _) (argsL := []) (rest := []) (lenOf pd_5 rfl) rfl (by show 2 * 0 + _ ≤ _; exact Nat.le_of_eq rfl) (hb hby at_106) (fun _ _ => ⟨rfl, e18, (by decide : 3 + 0 ≤ _), (by decide : 27 + 0 ≤ _)⟩)
  dsimp only [Pt.U, Pt.locs, Pt.cells, Pt.slots] at X21 l21 y21 z21 st21 hQ21
  subst l21 y21 z21
  obtain ⟨rfl, Nq21, e21⟩ := hQ21
  have N21 := Fr.app N18 Nq21
  -- pc 114: com/example/corestone/corestone/BulkRequest.status
  have u25 : F_3 Z T7.heap b73 (.ref a_RUNNING) := Fld.keep o4_3 K7 List.not_mem_nil
  have u27 : E_1 Z T7.heap b73 := Exa.keep o4_0 K7
  obtain ⟨cq26, kq26, q26a, q26b, q26c⟩ := isOf hZ e21 u27
  obtain ⟨_, _, ⟨T26, L26, k26, n26⟩, -, X26, ⟨Lc26, hQ26, l26, y26, z26⟩, st26⟩ := X21.virtualBack hx (y := M_6) (z := M_6) hown (mvT hZ (tw_61 hw)) (mvT hZ (tw_62 hw)) (notFace_of_selects (args := #[]) (mvT hZ (tw_64 hw))) (mvT hZ (tw_64 hw)) (mvT hZ (tw_63 hw)) (by decide) (backOf (W := 0) (rm8_36 l Z a0 hw [] b73 a_RUNNING T7.heap n0 (Nat.le_trans Z0 KK7.1) u25) hZ (tw_65 hw) (tw_5 hw) (by decide) (by decide)) q26a q26c (g := (mkF m 114 #[.val (.int p0), .val (.int p1), .val (.int p2), .val (.int p3), .val (.int 3), .val (.ref a_FAILED), .val (.int 1), .val (.ref b72), .val (.ref b73), .val (.ref b74)] [(.ref b73)])) rfl (by rw [hml]; rfl) (Steps.refl _) (argsL := []) (rest := []) (lenOf pd_6 rfl) rfl (by show 2 * 0 + _ ≤ _; exact Nat.le_of_eq rfl) (hb hby at_114) (fun _ _ => ⟨rfl, e21, (by decide : 3 + 0 ≤ _), (by decide : 27 + 0 ≤ _)⟩)
  dsimp only [Pt.U, Pt.locs, Pt.cells, Pt.slots] at X26 l26 y26 z26 st26 hQ26
  subst l26 y26 z26
  obtain ⟨rfl, Nq26, e26⟩ := hQ26
  have N26 := Fr.app N21 Nq26
  -- pc 117: com/example/corestone/corestone/BulkRequest$Status.ended
  have u29 : E_0 Z T2.heap a_RUNNING := Exa.keep f14 K2
  have u30 : E_0 Z T4.heap a_RUNNING := Exa.keep u29 K4
  have u31 : E_0 Z T7.heap a_RUNNING := Exa.keep u30 K7
  obtain ⟨cq28, kq28, q28a, q28b, q28c⟩ := isOf hZ e26 u31
  obtain ⟨_, _, ⟨T28, L28, k28, n28⟩, -, X28, ⟨Lc28, hQ28, l28, y28, z28⟩, st28⟩ := X26.virtualBack hx (y := M_5) (z := M_5) hown (mvT hZ (tw_53 hw)) (mvT hZ (tw_54 hw)) (notFace_of_selects (args := #[]) (mvT hZ (tw_56 hw))) (mvT hZ (tw_56 hw)) (mvT hZ (tw_55 hw)) (by decide) (backOf (W := 0) (rm7_37 l Z a0 hw [] a_RUNNING a_COMPLETED a_FAILED T7.heap n0 (Nat.le_trans Z0 KK7.1) u10 f12 u11 f13) hZ (tw_57 hw) (tw_1 hw) (by decide) (by decide)) q28a q28c (g := (mkF m 117 #[.val (.int p0), .val (.int p1), .val (.int p2), .val (.int p3), .val (.int 3), .val (.ref a_FAILED), .val (.int 1), .val (.ref b72), .val (.ref b73), .val (.ref b74)] [(.ref a_RUNNING)])) rfl (by rw [hml]; rfl) (Steps.refl _) (argsL := []) (rest := []) (lenOf pd_5 rfl) rfl (by show 2 * 0 + _ ≤ _; exact Nat.le_of_eq rfl) (hb hby at_117) (fun _ _ => ⟨rfl, e26, (by decide : 3 + 0 ≤ _), (by decide : 27 + 0 ≤ _)⟩)
  dsimp only [Pt.U, Pt.locs, Pt.cells, Pt.slots] at X28 l28 y28 z28 st28 hQ28
  subst l28 y28 z28
  obtain ⟨rfl, Nq28, e28⟩ := hQ28
  have N28 := Fr.app N26 Nq28
  -- pc 125: com/example/corestone/corestone/BulkRequest.status
  obtain ⟨cq32, kq32, q32a, q32b, q32c⟩ := isOf hZ e28 o7_0
  obtain ⟨_, _, ⟨T32, L32, k32, n32⟩, -, X32, ⟨Lc32, hQ32, l32, y32, z32⟩, st32⟩ := X28.virtualBack hx (y := M_6) (z := M_6) hown (mvT hZ (tw_61 hw)) (mvT hZ (tw_62 hw)) (notFace_of_selects (args := #[]) (mvT hZ (tw_64 hw))) (mvT hZ (tw_64 hw)) (mvT hZ (tw_63 hw)) (by decide) (backOf (W := 0) (rm8_49 l Z a0 hw [] b74 a_FAILED T7.heap n0 (Nat.le_trans Z0 KK7.1) o7_3) hZ (tw_65 hw) (tw_5 hw) (by decide) (by decide)) q32a q32c (g := (mkF m 125 #[.val (.int p0), .val (.int p1), .val (.int p2), .val (.int p3), .val (.int 3), .val (.ref a_FAILED), .val (.int 1), .val (.ref b72), .val (.ref b73), .val (.ref b74)] [(.ref b74)])) rfl (by rw [hml]; rfl) (Steps.refl _) (argsL := []) (rest := []) (lenOf pd_6 rfl) rfl (by show 2 * 0 + _ ≤ _; exact Nat.le_of_eq rfl) (hb hby at_125) (fun _ _ => ⟨rfl, e28, (by decide : 3 + 0 ≤ _), (by decide : 27 + 0 ≤ _)⟩)
  dsimp only [Pt.U, Pt.locs, Pt.cells, Pt.slots] at X32 l32 y32 z32 st32 hQ32
  subst l32 y32 z32
  obtain ⟨rfl, Nq32, e32⟩ := hQ32
  have N32 := Fr.app N28 Nq32
  -- pc 128: com/example/corestone/corestone/BulkRequest$Status.ended
  obtain ⟨cq33, kq33, q33a, q33b, q33c⟩ := isOf hZ e32 u15
  obtain ⟨_, _, ⟨T33, L33, k33, n33⟩, -, X33, ⟨Lc33, hQ33, l33, y33, z33⟩, st33⟩ := X32.virtualBack hx (y := M_5) (z := M_5) hown (mvT hZ (tw_53 hw)) (mvT hZ (tw_54 hw)) (notFace_of_selects (args := #[]) (mvT hZ (tw_56 hw))) (mvT hZ (tw_56 hw)) (mvT hZ (tw_55 hw)) (by decide) (backOf (W := 0) (rm7_50 l Z a0 hw [] a_FAILED a_COMPLETED T7.heap n0 (Nat.le_trans Z0 KK7.1) u10 f7 u11) hZ (tw_57 hw) (tw_1 hw) (by decide) (by decide)) q33a q33c (g := (mkF m 128 #[.val (.int p0), .val (.int p1), .val (.int p2), .val (.int p3), .val (.int 3), .val (.ref a_FAILED), .val (.int 1), .val (.ref b72), .val (.ref b73), .val (.ref b74)] [(.ref a_FAILED)])) rfl (by rw [hml]; rfl) (Steps.refl _) (argsL := []) (rest := []) (lenOf pd_5 rfl) rfl (by show 2 * 0 + _ ≤ _; exact Nat.le_of_eq rfl) (hb hby at_128) (fun _ _ => ⟨rfl, e32, (by decide : 3 + 0 ≤ _), (by decide : 27 + 0 ≤ _)⟩)
  dsimp only [Pt.U, Pt.locs, Pt.cells, Pt.slots] at X33 l33 y33 z33 st33 hQ33
  subst l33 y33 z33
  obtain ⟨rfl, Nq33, e33⟩ := hQ33
  have N33 := Fr.app N32 Nq33
  obtain ⟨fs, hr, hrun, hended, hW, hsame⟩ := X33.leave (v := (some (.int 1))) (fun h => by rw [Bd.returns] at h; cases h)
  refine ⟨_, _, castTop (ef0_IIII m p0 p1 p2 p3) ?_, hrun, hended, _, _, rfl, ?_, ⟨_, rfl⟩, hW, hsame.mono (by decide) (by decide)⟩
  · show Steps p.tables e below (s₁.setTop (mkF m 0 #[.val (.int p0), .val (.int p1), .val (.int p2), .val (.int p3), .unset, .unset, .unset, .unset, .unset, .unset] [])) _
    refine XS.iloadN X0.here hx rfl (hb hby at_0) rfl ?_
    refine XS.iconst X0.here hx rfl (hb hby at_1) ?_
    show Steps p.tables e below (s₁.setTop (mkF m 2 #[.val (.int p0), .val (.int p1), .val (.int p2), .val (.int p3), .unset, .unset, .unset, .unset, .unset, .unset] [(.int 3), (.int p0)])) _
    refine XS.iand X0.here hx rfl (hb hby at_2) rfl ?_
    show Steps p.tables e below (s₁.setTop (mkF m 3 #[.val (.int p0), .val (.int p1), .val (.int p2), .val (.int p3), .unset, .unset, .unset, .unset, .unset, .unset] [(.int (p0 &&& (3 : Int32)))])) _
    rw [f1]
    refine XS.istore X0.here hx rfl (hb hby at_3) rfl (l' := #[.val (.int p0), .val (.int p1), .val (.int p2), .val (.int p3), .val (.int 3), .unset, .unset, .unset, .unset, .unset]) rfl ?_
    refine XS.iload X0.here hx rfl (hb hby at_5) rfl ?_
    refine XS.ifYes X0.here hx rfl (pc0 := 7) (pc' := 21) rfl (hb hby at_7) rfl (by decide) (by decide) (by decide) ?_
    refine XS.iload X0.here hx rfl (hb hby at_21) rfl ?_
    show Steps p.tables e below (s₁.setTop (mkF m 23 #[.val (.int p0), .val (.int p1), .val (.int p2), .val (.int p3), .val (.int 3), .unset, .unset, .unset, .unset, .unset] [(.int 3)])) _
    refine XS.iconst X0.here hx rfl (hb hby at_23) ?_
    refine XS.icmpYes X0.here hx rfl (pc0 := 24) (pc' := 38) rfl (hb hby at_24) rfl (by decide) (by decide) (by decide) ?_
    refine XS.iload X0.here hx rfl (hb hby at_38) rfl ?_
    refine XS.iconst X0.here hx rfl (hb hby at_40) ?_
    refine XS.icmpYes X0.here hx rfl (pc0 := 41) (pc' := 55) rfl (hb hby at_41) rfl (by decide) (by decide) (by decide) ?_
    show Steps p.tables e below (s₁.setTop (mkF m 55 #[.val (.int p0), .val (.int p1), .val (.int p2), .val (.int p3), .val (.int 3), .unset, .unset, .unset, .unset, .unset] [])) _
    refine st1 _ ?_
    refine XS.astore X1.here hx rfl (hb hby at_58) rfl rfl (l' := #[.val (.int p0), .val (.int p1), .val (.int p2), .val (.int p3), .val (.int 3), .val (.ref a_FAILED), .unset, .unset, .unset, .unset]) rfl ?_
    refine XS.iconst X1.here hx rfl (hb hby at_60) ?_
    refine XS.istore X1.here hx rfl (hb hby at_61) rfl (l' := #[.val (.int p0), .val (.int p1), .val (.int p2), .val (.int p3), .val (.int 3), .val (.ref a_FAILED), .val (.int 1), .unset, .unset, .unset]) rfl ?_
    refine XS.aconstNull X1.here hx rfl (hb hby at_63) ?_
    show Steps p.tables e below (T1.setTop (mkF m 64 #[.val (.int p0), .val (.int p1), .val (.int p2), .val (.int p3), .val (.int 3), .val (.ref a_FAILED), .val (.int 1), .unset, .unset, .unset] [.null])) _
    refine XS.aconstNull X1.here hx rfl (hb hby at_64) ?_
    refine XS.iconst X1.here hx rfl (hb hby at_65) ?_
    refine XS.aconstNull X1.here hx rfl (hb hby at_66) ?_
    show Steps p.tables e below (T1.setTop (mkF m 67 #[.val (.int p0), .val (.int p1), .val (.int p2), .val (.int p3), .val (.int 3), .val (.ref a_FAILED), .val (.int 1), .unset, .unset, .unset] [.null, (.int 0), .null, .null])) _
    refine st2 _ ?_
    refine XS.astore X2.here hx rfl (hb hby at_70) rfl rfl (l' := #[.val (.int p0), .val (.int p1), .val (.int p2), .val (.int p3), .val (.int 3), .val (.ref a_FAILED), .val (.int 1), .val (.ref b72), .unset, .unset]) rfl ?_
    refine XS.aload X2.here hx rfl (hb hby at_72) rfl rfl ?_
    refine XS.iloadN X2.here hx rfl (hb hby at_74) rfl ?_
    refine XS.iloadN X2.here hx rfl (hb hby at_75) rfl ?_
    show Steps p.tables e below (T2.setTop (mkF m 76 #[.val (.int p0), .val (.int p1), .val (.int p2), .val (.int p3), .val (.int 3), .val (.ref a_FAILED), .val (.int 1), .val (.ref b72), .unset, .unset] [(.int p2), (.int p1), (.ref b72)])) _
    refine XS.iloadN X2.here hx rfl (hb hby at_76) rfl ?_
    refine XS.aconstNull X2.here hx rfl (hb hby at_77) ?_
    show Steps p.tables e below (T2.setTop (mkF m 78 #[.val (.int p0), .val (.int p1), .val (.int p2), .val (.int p3), .val (.int 3), .val (.ref a_FAILED), .val (.int 1), .val (.ref b72), .unset, .unset] [.null, (.int p3), (.int p2), (.int p1), (.ref b72)])) _
    refine st4.trans ?_
    refine XS.astore X4.here hx rfl (hb hby at_81) rfl rfl (l' := #[.val (.int p0), .val (.int p1), .val (.int p2), .val (.int p3), .val (.int 3), .val (.ref a_FAILED), .val (.int 1), .val (.ref b72), .val (.ref b73), .unset]) rfl ?_
    refine XS.aload X4.here hx rfl (hb hby at_83) rfl rfl ?_
    refine XS.aconstNull X4.here hx rfl (hb hby at_85) ?_
    show Steps p.tables e below (T4.setTop (mkF m 86 #[.val (.int p0), .val (.int p1), .val (.int p2), .val (.int p3), .val (.int 3), .val (.ref a_FAILED), .val (.int 1), .val (.ref b72), .val (.ref b73), .unset] [.null, (.ref b73)])) _
    refine st7.trans ?_
    refine XS.astore X7.here hx rfl (hb hby at_89) rfl rfl (l' := #[.val (.int p0), .val (.int p1), .val (.int p2), .val (.int p3), .val (.int 3), .val (.ref a_FAILED), .val (.int 1), .val (.ref b72), .val (.ref b73), .val (.ref b74)]) rfl ?_
    refine XS.aload X7.here hx rfl (hb hby at_91) rfl rfl ?_
    show Steps p.tables e below (T7.setTop (mkF m 93 #[.val (.int p0), .val (.int p1), .val (.int p2), .val (.int p3), .val (.int 3), .val (.ref a_FAILED), .val (.int 1), .val (.ref b72), .val (.ref b73), .val (.ref b74)] [(.ref a_FAILED)])) _
    refine st12.trans ?_
    refine XS.iload X12.here hx rfl (hb hby at_96) rfl ?_
    refine XS.icmpNo X12.here hx rfl (hb hby at_98) rfl (by decide) ?_
    refine XS.aload X12.here hx rfl (hb hby at_101) rfl rfl ?_
    show Steps p.tables e below (T12.setTop (mkF m 103 #[.val (.int p0), .val (.int p1), .val (.int p2), .val (.int p3), .val (.int 3), .val (.ref a_FAILED), .val (.int 1), .val (.ref b72), .val (.ref b73), .val (.ref b74)] [(.ref b72)])) _
    refine st18.trans ?_
    show Steps p.tables e below (T18.setTop (mkF m 106 #[.val (.int p0), .val (.int p1), .val (.int p2), .val (.int p3), .val (.int 3), .val (.ref a_FAILED), .val (.int 1), .val (.ref b72), .val (.ref b73), .val (.ref b74)] [(.ref a_QUEUED)])) _
    refine st21.trans ?_
    refine XS.ifNo X21.here hx rfl (hb hby at_109) rfl (by decide) ?_
    refine XS.aload X21.here hx rfl (hb hby at_112) rfl rfl ?_
    show Steps p.tables e below (T21.setTop (mkF m 114 #[.val (.int p0), .val (.int p1), .val (.int p2), .val (.int p3), .val (.int 3), .val (.ref a_FAILED), .val (.int 1), .val (.ref b72), .val (.ref b73), .val (.ref b74)] [(.ref b73)])) _
    refine st26.trans ?_
    show Steps p.tables e below (T26.setTop (mkF m 117 #[.val (.int p0), .val (.int p1), .val (.int p2), .val (.int p3), .val (.int 3), .val (.ref a_FAILED), .val (.int 1), .val (.ref b72), .val (.ref b73), .val (.ref b74)] [(.ref a_RUNNING)])) _
    refine st28.trans ?_
    refine XS.ifNo X28.here hx rfl (hb hby at_120) rfl (by decide) ?_
    refine XS.aload X28.here hx rfl (hb hby at_123) rfl rfl ?_
    show Steps p.tables e below (T28.setTop (mkF m 125 #[.val (.int p0), .val (.int p1), .val (.int p2), .val (.int p3), .val (.int 3), .val (.ref a_FAILED), .val (.int 1), .val (.ref b72), .val (.ref b73), .val (.ref b74)] [(.ref b74)])) _
    refine st32.trans ?_
    show Steps p.tables e below (T32.setTop (mkF m 128 #[.val (.int p0), .val (.int p1), .val (.int p2), .val (.int p3), .val (.int 3), .val (.ref a_FAILED), .val (.int 1), .val (.ref b72), .val (.ref b73), .val (.ref b74)] [(.ref a_FAILED)])) _
    refine st33.trans ?_
    refine XS.ifNo X33.here hx rfl (hb hby at_131) rfl (by decide) ?_
    refine XS.iconst X33.here hx rfl (hb hby at_134) ?_
    refine XS.goto X33.here hx rfl (pc0 := 135) (pc' := 139) rfl (hb hby at_135) (by decide) (by decide) ?_
    show Steps p.tables e below (T33.setTop (mkF m 139 #[.val (.int p0), .val (.int p1), .val (.int p2), .val (.int p3), .val (.int 3), .val (.ref a_FAILED), .val (.int 1), .val (.ref b72), .val (.ref b73), .val (.ref b74)] [(.int 1)])) _
    exact retN X33 hx (t := .boolean) Bd.returns (by simp) (hb hby at_139) hr
  · show QT n0 _ T33.heap _
    rw [e33]
    exact ⟨rfl, N33⟩
set_option maxRecDepth 65536 in
set_option maxHeartbeats 40000000 in
theorem comes_1 {Post : Tables → Env → Array Value → State → Outcome → State → Prop} (hpost : ∀ tb e args s v u, (limb_1_1.after args s (.returned v) u = true ∧ limb_1_2.after args s (.returned v) u = true ∧ True) → FrameEnd s (.returned v) u (Jvm.fieldLocs frame_1_writes args s ++ Jvm.arrayLocs frame_1_arrays args s ++ Jvm.staticLocs frame_1_statics s) 16 128 → Post tb e args s (.returned v) u) :
    ArmFor flags0 classFile x code maxLocals ret World_1 tables_1 room_1 Calls_1 rest_1 Pre_1 Post := by
  intro l hfl _ _ p e ha hc hk s m args below hf hA hF happ hP
  obtain ⟨hcalls, hrest, hpre⟩ := hP
  obtain ⟨-, -, -, hnamed, -, -, -, hat⟩ := (Spec.applies_iff hf).mp happ
  obtain ⟨hg, hn⟩ := and_e (Cond.before_iff.mp (show (Jvm.Cond.and given_1 narrow_1).before args s = true from hpre))
  obtain ⟨k76, k77⟩ := and_e hg
  obtain ⟨k78, k79⟩ := and_e k77
  obtain ⟨k80, k81⟩ := and_e k79
  obtain ⟨k82, k83⟩ := and_e k81
  obtain ⟨w0, w1, w2, w3, rfl⟩ : ∃ w0 w1 w2 w3 : Value, args = #[w0, w1, w2, w3] := by
    have hs : args.size = 4 := by simpa [Cond.value, given_1] using k76
    obtain ⟨L⟩ := args
    match L, hs with
    | [w0, w1, w2, w3], _ => exact ⟨w0, w1, w2, w3, rfl⟩
  have hw := fun d (hd : d ∈ tables_1) => atoms_spec (ws := Jvm.Cond.code x code maxLocals ret :: tables_1) hat d (List.mem_cons_of_mem _ hd)
  have hfit : Fit s := fun {y c} hc i hi => by
    obtain ⟨ha, rfl⟩ := Array.getElem?_eq_some_iff.mp hc
    have q := List.all_eq_true.mp ((Array.all_eq_true_iff_forall_mem.mp hF) _ (Array.getElem_mem ha)) i (List.mem_range.mpr hi)
    simpa [Array.getElem?_eq_getElem hi] using q
  obtain ⟨p0, ei0⟩ := is_v k78
  obtain rfl : w0 = (.int p0) := Option.some.inj ei0
  obtain ⟨p1, ei1⟩ := is_v k80
  obtain rfl : w1 = (.int p1) := Option.some.inj ei1
  obtain ⟨p2, ei2⟩ := is_v k82
  obtain rfl : w2 = (.int p2) := Option.some.inj ei2
  obtain ⟨p3, ei3⟩ := is_v k83
  obtain rfl : w3 = (.int p3) := Option.some.inj ei3
  obtain ⟨g1, g2⟩ := and_e hn
  obtain ⟨g3, g4⟩ := and_e g2
  obtain ⟨g5, g6⟩ := and_e g4
  obtain ⟨g7, g8⟩ := and_e g6
  obtain ⟨g9, g10⟩ := and_e g8
  obtain ⟨g11, g12⟩ := and_e g10
  obtain ⟨g13, g14⟩ := and_e g12
  obtain ⟨a_QUEUED, ev_a_QUEUED⟩ := exa_v g1
  have S_a_QUEUED : Sta s s.heap "com/example/corestone/corestone/BulkRequest$Status" "QUEUED" "Lcom/example/corestone/corestone/BulkRequest$Status;" (.ref a_QUEUED) := Sta.start ev_a_QUEUED (Or.inr ⟨(tw_1 hw), (tw_2 hw)⟩)
  have E_a_QUEUED : Exa s s.heap a_QUEUED "com/example/corestone/corestone/BulkRequest$Status" := Exa.start ev_a_QUEUED g1
  obtain ⟨a_RUNNING, ev_a_RUNNING⟩ := exa_v g3
  have S_a_RUNNING : Sta s s.heap "com/example/corestone/corestone/BulkRequest$Status" "RUNNING" "Lcom/example/corestone/corestone/BulkRequest$Status;" (.ref a_RUNNING) := Sta.start ev_a_RUNNING (Or.inr ⟨(tw_1 hw), (tw_45 hw)⟩)
  have E_a_RUNNING : Exa s s.heap a_RUNNING "com/example/corestone/corestone/BulkRequest$Status" := Exa.start ev_a_RUNNING g3
  obtain ⟨a_COMPLETED, ev_a_COMPLETED⟩ := exa_v g5
  have S_a_COMPLETED : Sta s s.heap "com/example/corestone/corestone/BulkRequest$Status" "COMPLETED" "Lcom/example/corestone/corestone/BulkRequest$Status;" (.ref a_COMPLETED) := Sta.start ev_a_COMPLETED (Or.inr ⟨(tw_1 hw), (tw_52 hw)⟩)
  have E_a_COMPLETED : Exa s s.heap a_COMPLETED "com/example/corestone/corestone/BulkRequest$Status" := Exa.start ev_a_COMPLETED g5
  obtain ⟨a_FAILED, ev_a_FAILED⟩ := exa_v g11
  have S_a_FAILED : Sta s s.heap "com/example/corestone/corestone/BulkRequest$Status" "FAILED" "Lcom/example/corestone/corestone/BulkRequest$Status;" (.ref a_FAILED) := Sta.start ev_a_FAILED (Or.inr ⟨(tw_1 hw), (tw_60 hw)⟩)
  have E_a_FAILED : Exa s s.heap a_FAILED "com/example/corestone/corestone/BulkRequest$Status" := Exa.start ev_a_FAILED g11
  have F_ordinal_a_QUEUED : Fld s s.heap a_QUEUED "java/lang/Enum" "ordinal" "I" (.int (0 : Int32)) := own_fld ev_a_QUEUED g7
  have F_ordinal_a_COMPLETED : Fld s s.heap a_COMPLETED "java/lang/Enum" "ordinal" "I" (.int (2 : Int32)) := own_fld ev_a_COMPLETED g9
  have F_ordinal_a_FAILED : Fld s s.heap a_FAILED "java/lang/Enum" "ordinal" "I" (.int (3 : Int32)) := own_fld ev_a_FAILED g13
  have F_ordinal_a_RUNNING : Fld s s.heap a_RUNNING "java/lang/Enum" "ordinal" "I" (.int (1 : Int32)) := own_fld ev_a_RUNNING g14
  have M : MetFree l x (head1 (Jvm.Cond.code x code maxLocals ret :: tables_1) room_1) (fun a U => a = #[(.int p0), (.int p1), (.int p2), (.int p3)] ∧ s.Warmed39 U.vm ∧ U.heap = s.heap) (fun _ _ _ _ _ => True) (fun _ U o U' => ∃ v L, o = .returned v ∧ QT s.heap.size v U'.heap L ∧ FrameEnd U o U' L room_1.cells room_1.slots) := by
    rcases own_and3 p0 with hk | hk | hk | hk
    · by_cases hj : (0 : Int32) < (((0 : Int32) + p1) + ((0 : Int32) + p2))
      · exact rm0_40 l s _ hw tables_1 p0 p1 p2 p3 a_QUEUED a_RUNNING a_COMPLETED a_FAILED s.heap s.heap.size (Nat.le_refl _) hk S_a_QUEUED S_a_RUNNING hj S_a_COMPLETED (Fld.ne F_ordinal_a_QUEUED F_ordinal_a_COMPLETED (by decide)) S_a_FAILED (Fld.ne F_ordinal_a_QUEUED F_ordinal_a_FAILED (by decide)) E_a_QUEUED (Fld.ne F_ordinal_a_COMPLETED F_ordinal_a_RUNNING (by decide)) (Fld.ne F_ordinal_a_FAILED F_ordinal_a_RUNNING (by decide)) E_a_RUNNING E_a_COMPLETED
      · exact rm0_51 l s _ hw tables_1 p0 p1 p2 p3 a_QUEUED a_RUNNING a_FAILED a_COMPLETED s.heap s.heap.size (Nat.le_refl _) hk S_a_QUEUED S_a_RUNNING hj S_a_FAILED S_a_COMPLETED (Fld.ne F_ordinal_a_QUEUED F_ordinal_a_COMPLETED (by decide)) (Fld.ne F_ordinal_a_QUEUED F_ordinal_a_FAILED (by decide)) E_a_QUEUED (Fld.ne F_ordinal_a_COMPLETED F_ordinal_a_RUNNING (by decide)) (Fld.ne F_ordinal_a_FAILED F_ordinal_a_RUNNING (by decide)) E_a_RUNNING (Fld.ne F_ordinal_a_COMPLETED F_ordinal_a_FAILED (by decide)) E_a_FAILED
    · by_cases hj : (0 : Int32) < (((0 : Int32) + p1) + ((0 : Int32) + p2))
      · exact rm0_55 l s _ hw tables_1 p0 p1 p2 p3 a_RUNNING a_QUEUED a_COMPLETED a_FAILED s.heap s.heap.size (Nat.le_refl _) hk S_a_RUNNING S_a_QUEUED hj S_a_COMPLETED (Fld.ne F_ordinal_a_COMPLETED F_ordinal_a_RUNNING (by decide)) S_a_FAILED (Fld.ne F_ordinal_a_FAILED F_ordinal_a_RUNNING (by decide)) E_a_RUNNING (Fld.ne F_ordinal_a_QUEUED F_ordinal_a_COMPLETED (by decide)) (Fld.ne F_ordinal_a_QUEUED F_ordinal_a_FAILED (by decide)) E_a_QUEUED E_a_COMPLETED
      · exact rm0_59 l s _ hw tables_1 p0 p1 p2 p3 a_RUNNING a_QUEUED a_FAILED a_COMPLETED s.heap s.heap.size (Nat.le_refl _) hk S_a_RUNNING S_a_QUEUED hj S_a_FAILED S_a_COMPLETED (Fld.ne F_ordinal_a_COMPLETED F_ordinal_a_RUNNING (by decide)) (Fld.ne F_ordinal_a_FAILED F_ordinal_a_RUNNING (by decide)) E_a_RUNNING (Fld.ne F_ordinal_a_QUEUED F_ordinal_a_COMPLETED (by decide)) (Fld.ne F_ordinal_a_QUEUED F_ordinal_a_FAILED (by decide)) E_a_QUEUED (Fld.ne F_ordinal_a_COMPLETED F_ordinal_a_FAILED (by decide)) E_a_FAILED
    · by_cases hj : (0 : Int32) < (((0 : Int32) + p1) + ((0 : Int32) + p2))
      · exact rm0_63 l s _ hw tables_1 p0 p1 p2 p3 a_COMPLETED a_QUEUED a_RUNNING a_FAILED s.heap s.heap.size (Nat.le_refl _) hk S_a_COMPLETED S_a_QUEUED S_a_RUNNING hj E_a_COMPLETED (Fld.ne F_ordinal_a_QUEUED F_ordinal_a_COMPLETED (by decide)) S_a_FAILED (Fld.ne F_ordinal_a_QUEUED F_ordinal_a_FAILED (by decide)) E_a_QUEUED (Fld.ne F_ordinal_a_COMPLETED F_ordinal_a_RUNNING (by decide)) (Fld.ne F_ordinal_a_FAILED F_ordinal_a_RUNNING (by decide)) E_a_RUNNING
      · exact rm0_67 l s _ hw tables_1 p0 p1 p2 p3 a_COMPLETED a_QUEUED a_RUNNING a_FAILED s.heap s.heap.size (Nat.le_refl _) hk S_a_COMPLETED S_a_QUEUED S_a_RUNNING hj S_a_FAILED E_a_COMPLETED (Fld.ne F_ordinal_a_QUEUED F_ordinal_a_COMPLETED (by decide)) (Fld.ne F_ordinal_a_QUEUED F_ordinal_a_FAILED (by decide)) E_a_QUEUED (Fld.ne F_ordinal_a_COMPLETED F_ordinal_a_RUNNING (by decide)) (Fld.ne F_ordinal_a_FAILED F_ordinal_a_RUNNING (by decide)) E_a_RUNNING (Fld.ne F_ordinal_a_COMPLETED F_ordinal_a_FAILED (by decide)) E_a_FAILED
    · by_cases hj : (0 : Int32) < (((0 : Int32) + p1) + ((0 : Int32) + p2))
      · exact rm0_71 l s _ hw tables_1 p0 p1 p2 p3 a_FAILED a_QUEUED a_RUNNING a_COMPLETED s.heap s.heap.size (Nat.le_refl _) hk S_a_FAILED S_a_QUEUED S_a_RUNNING hj S_a_COMPLETED (Fld.ne F_ordinal_a_COMPLETED F_ordinal_a_FAILED (by decide)) E_a_FAILED (Fld.ne F_ordinal_a_QUEUED F_ordinal_a_COMPLETED (by decide)) (Fld.ne F_ordinal_a_QUEUED F_ordinal_a_FAILED (by decide)) E_a_QUEUED (Fld.ne F_ordinal_a_COMPLETED F_ordinal_a_RUNNING (by decide)) (Fld.ne F_ordinal_a_FAILED F_ordinal_a_RUNNING (by decide)) E_a_RUNNING E_a_COMPLETED
      · exact rm0_75 l s _ hw tables_1 p0 p1 p2 p3 a_FAILED a_QUEUED a_RUNNING a_COMPLETED s.heap s.heap.size (Nat.le_refl _) hk S_a_FAILED S_a_QUEUED S_a_RUNNING hj S_a_COMPLETED (Fld.ne F_ordinal_a_COMPLETED F_ordinal_a_FAILED (by decide)) E_a_FAILED (Fld.ne F_ordinal_a_QUEUED F_ordinal_a_COMPLETED (by decide)) (Fld.ne F_ordinal_a_QUEUED F_ordinal_a_FAILED (by decide)) E_a_QUEUED (Fld.ne F_ordinal_a_COMPLETED F_ordinal_a_RUNNING (by decide)) (Fld.ne F_ordinal_a_FAILED F_ordinal_a_RUNNING (by decide)) E_a_RUNNING
  obtain ⟨n, o, h1, h2, h3, _, L, rfl, ⟨rfl, N⟩, hq⟩ := M p e ha hc hk s m _ below hf ((Spec.applies_iff_loose hf).mp happ).1 ⟨rfl, State.Warmed39.refl s, rfl⟩ trivial
  refine ⟨n, _, h1, h2, h3, hpost _ _ _ _ _ _ ⟨Cond.after_iff.mpr rfl, Cond.after_iff.mpr (eq_i res_at (Term.int_eval (1)) rfl), trivial⟩ ⟨hq.1, hq.2.1, (hq.2.2.sift fun y hy => Or.inr (N y hy)).mono (by decide) (by decide)⟩⟩
theorem main_1_1 : Claimed_1_1 := comes_1 fun _ _ _ _ _ _ h hF => ⟨h.1, hF⟩
theorem main_1_2 : Claimed_1_2 := comes_1 fun _ _ _ _ _ _ h hF => ⟨h.2.1, hF⟩
end Jvm.Pilot.@@N@@
namespace Jvm.Pilot.@@N@@
open Jvm Jvm.ClassFile Sem Op Lib Jvm.Free Jvm.Stand Jvm.Pilot.@@N@@.Jvm.D
/-! MADE BY PROGRAM (witnessworld.py) out of the Statement's table words and the real class files: 12 classes; the members and pool entries that the words name. The judged class is class 1, her method 1. -/
namespace start1
open Jvm.ClassFile
def u (s : String) : CpInfo := .utf8 (stringToUtf16 s)
/-- a pool by its gaps: so many unusable entries, then the entry; so many at the end -/
def gap : Nat → List CpInfo → List CpInfo
  | 0, r => r
  | n + 1, r => .unusable :: gap n r
def poolList (es : List (Nat × CpInfo)) (last : Nat) : List CpInfo := es.foldr (fun e r => gap e.1 (e.2 :: r)) (gap last [])
def pool (es : List (Nat × CpInfo)) (last : Nat) : Array CpInfo := ⟨poolList es last⟩
def fileOf (pool : Array CpInfo) (this : Nat) (attrs : Array Attribute := #[]) (ms : Array MethodInfo := #[]) (fl : Nat := 33) (sup : Nat := 0) (ifs : Array Nat := #[]) (fds : Array FieldInfo := #[]) : ClassFile where
  minorVersion := 0
  majorVersion := 65
  constantPool := pool
  accessFlags := fl
  thisClass := this
  superClass := sup
  interfaces := ifs
  fields := fds
  methods := ms
  attributes := attrs
def plain (name : String) (sup : Option ClassId) : Class where
  name := name
  kind := .ordinary
  loader := none
  accessFlags := 33
  super := sup
  interfaces := #[]
  cf := none
  fields := #[]
  methods := #[]
  instanceTypes := #[]
  staticTypes := #[]
  resolved := #[]
  callSites := []
  init := .initialized
  statics := none
  mirror := none

def pool0 : Array CpInfo := pool [(5, u "<init>"), (0, u "()V"), (1, .class_ 10), (1, u "java/lang/Object")] 113

def k0c0 : Code := { maxStack := 0, maxLocals := 1, code := object_method_1_code, exceptionTable := #[], attributes := #[] }
def k0m0 : Method := { name := "<init>", desc := "()V", sig := { parameters := [], returnType := none }, accessFlags := 1, code := some k0c0 }
/-- java/lang/Object -/
def k0 : Class := { plain "java/lang/Object" none with
  accessFlags := 33
  interfaces := #[]
  cf := some (fileOf pool0 8 #[] #[{ accessFlags := 1, nameIndex := 5, descriptorIndex := 6, attributes := #[] }] 33 0 #[] #[])
  fields := #[]
  methods := #[k0m0]
  instanceTypes := #[]
  staticTypes := #[]
  resolved := Array.replicate 124 none
  statics := none }

def pool1 : Array CpInfo := pool [(2, .class_ 4), (1, u "java/lang/Object"), (0, u "<init>"), (0, u "()V"), (0, .fieldref 8 9), (0, .class_ 10), (0, .nameAndType 11 12), (0, u "com/example/corestone/corestone/BulkRequest$Status"), (0, u "QUEUED"), (0, u "Lcom/example/corestone/corestone/BulkRequest$Status;"), (0, .fieldref 8 14), (0, .nameAndType 15 12), (0, u "RUNNING"), (0, .fieldref 8 17), (0, .nameAndType 18 12), (0, u "COMPLETED"), (0, .fieldref 8 20), (0, .nameAndType 21 12), (0, u "FAILED"), (0, .methodref 23 24), (0, .class_ 25), (0, .nameAndType 26 27), (0, u "com/example/corestone/corestone/BulkRequest"), (0, u "queued"), (0, u "(Ljava/lang/String;Ljava/lang/String;ILjava/time/Instant;)Lcom/example/corestone/corestone/BulkRequest;"), (0, .methodref 23 29), (0, .nameAndType 30 31), (0, u "running"), (0, u "(IIILjava/time/Instant;)Lcom/example/corestone/corestone/BulkRequest;"), (0, .methodref 23 33), (0, .nameAndType 34 35), (0, u "ended"), (0, u "(Ljava/time/Instant;)Lcom/example/corestone/corestone/BulkRequest;"), (0, .methodref 8 37), (0, .nameAndType 34 38), (0, u "()Z"), (0, .methodref 23 40), (0, .nameAndType 41 42), (0, u "status"), (0, u "()Lcom/example/corestone/corestone/BulkRequest$Status;"), (0, .class_ 44), (0, u "com/example/corestone/corestone/StatusEndedPinLaw"), (2, u "law"), (0, u "(IIII)Z")] 5

def k1m0 : Method := { name := "<init>", desc := "()V", sig := { parameters := [], returnType := none }, accessFlags := 1, code := none }
def k1c1 : Code := { maxStack := 5, maxLocals := 10, code := code, exceptionTable := #[], attributes := #[] }
def k1m1 : Method := { name := "law", desc := "(IIII)Z", sig := { parameters := [.int, .int, .int, .int], returnType := some .boolean }, accessFlags := 9, code := some k1c1 }
/-- com/example/corestone/corestone/StatusEndedPinLaw -/
def k1 : Class := { plain "com/example/corestone/corestone/StatusEndedPinLaw" (some 0) with
  accessFlags := 49
  interfaces := #[]
  cf := some (fileOf pool1 43 #[] #[{ accessFlags := 1, nameIndex := 5, descriptorIndex := 6, attributes := #[] }, { accessFlags := 9, nameIndex := 47, descriptorIndex := 48, attributes := #[] }] 49 2 #[] #[])
  fields := #[]
  methods := #[k1m0, k1m1]
  instanceTypes := #[]
  staticTypes := #[]
  resolved := Array.replicate 54 none
  statics := none }

def pool2 : Array CpInfo := pool [(1, .class_ 2), (0, u "java/lang/constant/Constable"), (0, .class_ 4), (0, u "java/lang/Object")] 6

/-- java/lang/constant/Constable -/
def k2 : Class := { plain "java/lang/constant/Constable" (some 0) with
  accessFlags := 1537
  interfaces := #[]
  cf := some (fileOf pool2 1 #[] #[] 1537 3 #[] #[])
  fields := #[]
  methods := #[]
  instanceTypes := #[]
  staticTypes := #[]
  resolved := Array.replicate 11 none
  statics := none }

def pool3 : Array CpInfo := pool [(1, .class_ 2), (0, u "java/lang/Comparable"), (0, .class_ 4), (0, u "java/lang/Object")] 7

/-- java/lang/Comparable -/
def k3 : Class := { plain "java/lang/Comparable" (some 0) with
  accessFlags := 1537
  interfaces := #[]
  cf := some (fileOf pool3 1 #[] #[] 1537 3 #[] #[])
  fields := #[]
  methods := #[]
  instanceTypes := #[]
  staticTypes := #[]
  resolved := Array.replicate 12 none
  statics := none }

def pool4 : Array CpInfo := pool [(1, .class_ 2), (0, u "java/io/Serializable"), (0, .class_ 4), (0, u "java/lang/Object")] 2

/-- java/io/Serializable -/
def k4 : Class := { plain "java/io/Serializable" (some 0) with
  accessFlags := 1537
  interfaces := #[]
  cf := some (fileOf pool4 1 #[] #[] 1537 3 #[] #[])
  fields := #[]
  methods := #[]
  instanceTypes := #[]
  staticTypes := #[]
  resolved := Array.replicate 7 none
  statics := none }

def pool5 : Array CpInfo := pool [(2, .class_ 4), (1, u "java/lang/Enum"), (0, u "name"), (0, u "Ljava/lang/String;"), (2, u "ordinal"), (0, u "I"), (1, .class_ 14), (1, u "java/lang/Object"), (4, u "hash"), (86, .class_ 108), (1, u "java/lang/Enum$EnumDesc"), (2, .class_ 112), (0, u "java/lang/constant/Constable"), (0, .class_ 114), (0, u "java/lang/Comparable"), (0, .class_ 116), (0, u "java/io/Serializable")] 87

/-- java/lang/Enum -/
def k5 : Class := { plain "java/lang/Enum" (some 0) with
  accessFlags := 1057
  interfaces := #[2, 3, 4]
  cf := some (fileOf pool5 2 #[.nestMembers #[106]] #[] 1057 12 #[111, 113, 115] #[{ accessFlags := 18, nameIndex := 5, descriptorIndex := 6, attributes := #[] }, { accessFlags := 18, nameIndex := 9, descriptorIndex := 10, attributes := #[] }, { accessFlags := 2, nameIndex := 19, descriptorIndex := 10, attributes := #[] }])
  fields := #[{ name := "name", type := (.object "java/lang/String"), accessFlags := 18, slot := 0, constantValue := 0 }, { name := "ordinal", type := .int, accessFlags := 18, slot := 1, constantValue := 0 }, { name := "hash", type := .int, accessFlags := 2, slot := 2, constantValue := 0 }]
  methods := #[]
  instanceTypes := #[(.object "java/lang/String"), .int, .int]
  staticTypes := #[]
  resolved := Array.replicate 204 none
  statics := none }

def pool6 : Array CpInfo := pool [(1, .class_ 2), (0, u "com/example/corestone/corestone/BulkRequest$Status"), (2, u "QUEUED"), (0, u "Lcom/example/corestone/corestone/BulkRequest$Status;"), (2, u "RUNNING"), (0, .fieldref 1 11), (0, .nameAndType 12 6), (0, u "COMPLETED"), (0, .fieldref 1 14), (0, .nameAndType 15 6), (0, u "FAILED"), (2, u "$VALUES"), (0, u "[Lcom/example/corestone/corestone/BulkRequest$Status;"), (6, .class_ 28), (1, u "java/lang/Enum"), (22, u "ended"), (0, u "()Z"), (6, .class_ 60), (0, u "com/example/corestone/corestone/BulkRequest")] 2

def k6c0 : Code := { maxStack := 2, maxLocals := 1, code := prog_5_method_4_code, exceptionTable := #[], attributes := #[] }
def k6m0 : Method := { name := "ended", desc := "()Z", sig := { parameters := [], returnType := some .boolean }, accessFlags := 0, code := some k6c0 }
/-- com/example/corestone/corestone/BulkRequest$Status -/
def k6 : Class := { plain "com/example/corestone/corestone/BulkRequest$Status" (some 5) with
  accessFlags := 16432
  interfaces := #[]
  cf := some (fileOf pool6 1 #[.nestHost 59] #[{ accessFlags := 0, nameIndex := 51, descriptorIndex := 52, attributes := #[] }] 16432 26 #[] #[{ accessFlags := 16409, nameIndex := 5, descriptorIndex := 6, attributes := #[] }, { accessFlags := 16409, nameIndex := 9, descriptorIndex := 6, attributes := #[] }, { accessFlags := 16409, nameIndex := 12, descriptorIndex := 6, attributes := #[] }, { accessFlags := 16409, nameIndex := 15, descriptorIndex := 6, attributes := #[] }, { accessFlags := 4122, nameIndex := 18, descriptorIndex := 19, attributes := #[] }])
  fields := #[{ name := "QUEUED", type := (.object "com/example/corestone/corestone/BulkRequest$Status"), accessFlags := 16409, slot := 0, constantValue := 0 }, { name := "RUNNING", type := (.object "com/example/corestone/corestone/BulkRequest$Status"), accessFlags := 16409, slot := 1, constantValue := 0 }, { name := "COMPLETED", type := (.object "com/example/corestone/corestone/BulkRequest$Status"), accessFlags := 16409, slot := 2, constantValue := 0 }, { name := "FAILED", type := (.object "com/example/corestone/corestone/BulkRequest$Status"), accessFlags := 16409, slot := 3, constantValue := 0 }, { name := "$VALUES", type := (.array (.object "com/example/corestone/corestone/BulkRequest$Status")), accessFlags := 4122, slot := 4, constantValue := 0 }]
  methods := #[k6m0]
  instanceTypes := #[(.object "java/lang/String"), .int, .int]
  staticTypes := #[(.object "com/example/corestone/corestone/BulkRequest$Status"), (.object "com/example/corestone/corestone/BulkRequest$Status"), (.object "com/example/corestone/corestone/BulkRequest$Status"), (.object "com/example/corestone/corestone/BulkRequest$Status"), (.array (.object "com/example/corestone/corestone/BulkRequest$Status"))]
  resolved := Array.replicate 63 none
  statics := some 0 }

def pool7 : Array CpInfo := pool [(1, .methodref 2 3), (0, .class_ 4), (0, .nameAndType 5 6), (0, u "java/lang/Object"), (0, u "<init>"), (0, u "()V"), (0, .class_ 8), (0, u "java/lang/Record")] 13

def k7c0 : Code := { maxStack := 1, maxLocals := 1, code := jdk_30_method_1_code, exceptionTable := #[], attributes := #[] }
def k7m0 : Method := { name := "<init>", desc := "()V", sig := { parameters := [], returnType := none }, accessFlags := 4, code := some k7c0 }
/-- java/lang/Record -/
def k7 : Class := { plain "java/lang/Record" (some 0) with
  accessFlags := 1057
  interfaces := #[]
  cf := some (fileOf pool7 7 #[] #[{ accessFlags := 4, nameIndex := 5, descriptorIndex := 6, attributes := #[] }] 1057 2 #[] #[])
  fields := #[]
  methods := #[k7m0]
  instanceTypes := #[]
  staticTypes := #[]
  resolved := Array.replicate 22 none
  statics := none }

def pool8 : Array CpInfo := pool [(1, .methodref 2 3), (0, .class_ 4), (0, .nameAndType 5 6), (0, u "java/lang/Record"), (0, u "<init>"), (0, u "()V"), (0, .fieldref 8 9), (0, .class_ 10), (0, .nameAndType 11 12), (0, u "com/example/corestone/corestone/BulkRequest"), (0, u "id"), (0, u "Ljava/lang/String;"), (0, .fieldref 8 14), (0, .nameAndType 15 12), (0, u "owner"), (0, .fieldref 8 17), (0, .nameAndType 18 19), (0, u "status"), (0, u "Lcom/example/corestone/corestone/BulkRequest$Status;"), (0, .fieldref 8 21), (0, .nameAndType 22 23), (0, u "createdAt"), (0, u "Ljava/time/Instant;"), (0, .fieldref 8 25), (0, .nameAndType 26 23), (0, u "updatedAt"), (0, .fieldref 8 28), (0, .nameAndType 29 30), (0, u "received"), (0, u "I"), (0, .fieldref 8 32), (0, .nameAndType 33 30), (0, u "created"), (0, .fieldref 8 35), (0, .nameAndType 36 30), (0, u "updated"), (0, .fieldref 8 38), (0, .nameAndType 39 30), (0, u "refused"), (0, .fieldref 41 42), (0, .class_ 43), (0, .nameAndType 44 19), (0, u "com/example/corestone/corestone/BulkRequest$Status"), (0, u "QUEUED"), (0, .methodref 8 46), (0, .nameAndType 5 47), (0, u "(Ljava/lang/String;Ljava/lang/String;Lcom/example/corestone/corestone/BulkRequest$Status;Ljava/time/Instant;Ljava/time/Instant;IIII)V"), (0, .fieldref 41 49), (0, .nameAndType 50 19), (0, u "RUNNING"), (0, .fieldref 41 52), (0, .nameAndType 53 19), (0, u "COMPLETED"), (0, .fieldref 41 55), (0, .nameAndType 56 19), (0, u "FAILED"), (15, u "queued"), (0, u "(Ljava/lang/String;Ljava/lang/String;ILjava/time/Instant;)Lcom/example/corestone/corestone/BulkRequest;"), (2, u "running"), (0, u "(IIILjava/time/Instant;)Lcom/example/corestone/corestone/BulkRequest;"), (0, u "ended"), (0, u "(Ljava/time/Instant;)Lcom/example/corestone/corestone/BulkRequest;"), (7, u "()Lcom/example/corestone/corestone/BulkRequest$Status;"), (4, .class_ 93), (0, u "com/example/corestone/corestone/BulkRequest$Piece"), (0, .class_ 95), (0, u "com/example/corestone/corestone/BulkRequest$Line")] 29

def k8c0 : Code := { maxStack := 2, maxLocals := 10, code := prog_2_method_1_code, exceptionTable := #[], attributes := #[] }
def k8m0 : Method := { name := "<init>", desc := "(Ljava/lang/String;Ljava/lang/String;Lcom/example/corestone/corestone/BulkRequest$Status;Ljava/time/Instant;Ljava/time/Instant;IIII)V", sig := { parameters := [(.object "java/lang/String"), (.object "java/lang/String"), (.object "com/example/corestone/corestone/BulkRequest$Status"), (.object "java/time/Instant"), (.object "java/time/Instant"), .int, .int, .int, .int], returnType := none }, accessFlags := 0, code := some k8c0 }
def k8c1 : Code := { maxStack := 11, maxLocals := 4, code := prog_2_method_2_code, exceptionTable := #[], attributes := #[] }
def k8m1 : Method := { name := "queued", desc := "(Ljava/lang/String;Ljava/lang/String;ILjava/time/Instant;)Lcom/example/corestone/corestone/BulkRequest;", sig := { parameters := [(.object "java/lang/String"), (.object "java/lang/String"), .int, (.object "java/time/Instant")], returnType := some (.object "com/example/corestone/corestone/BulkRequest") }, accessFlags := 8, code := some k8c1 }
def k8c2 : Code := { maxStack := 12, maxLocals := 5, code := prog_2_method_4_code, exceptionTable := #[], attributes := #[] }
def k8m2 : Method := { name := "running", desc := "(IIILjava/time/Instant;)Lcom/example/corestone/corestone/BulkRequest;", sig := { parameters := [.int, .int, .int, (.object "java/time/Instant")], returnType := some (.object "com/example/corestone/corestone/BulkRequest") }, accessFlags := 0, code := some k8c2 }
def k8c3 : Code := { maxStack := 11, maxLocals := 2, code := prog_2_method_5_code, exceptionTable := #[], attributes := #[] }
def k8m3 : Method := { name := "ended", desc := "(Ljava/time/Instant;)Lcom/example/corestone/corestone/BulkRequest;", sig := { parameters := [(.object "java/time/Instant")], returnType := some (.object "com/example/corestone/corestone/BulkRequest") }, accessFlags := 0, code := some k8c3 }
def k8c4 : Code := { maxStack := 1, maxLocals := 1, code := prog_2_method_11_code, exceptionTable := #[], attributes := #[] }
def k8m4 : Method := { name := "status", desc := "()Lcom/example/corestone/corestone/BulkRequest$Status;", sig := { parameters := [], returnType := some (.object "com/example/corestone/corestone/BulkRequest$Status") }, accessFlags := 1, code := some k8c4 }
/-- com/example/corestone/corestone/BulkRequest -/
def k8 : Class := { plain "com/example/corestone/corestone/BulkRequest" (some 7) with
  accessFlags := 48
  interfaces := #[]
  cf := some (fileOf pool8 8 #[.nestMembers #[92, 94, 41]] #[{ accessFlags := 0, nameIndex := 5, descriptorIndex := 47, attributes := #[] }, { accessFlags := 8, nameIndex := 72, descriptorIndex := 73, attributes := #[] }, { accessFlags := 0, nameIndex := 76, descriptorIndex := 77, attributes := #[] }, { accessFlags := 0, nameIndex := 78, descriptorIndex := 79, attributes := #[] }, { accessFlags := 1, nameIndex := 18, descriptorIndex := 87, attributes := #[] }] 48 2 #[] #[{ accessFlags := 18, nameIndex := 11, descriptorIndex := 12, attributes := #[] }, { accessFlags := 18, nameIndex := 15, descriptorIndex := 12, attributes := #[] }, { accessFlags := 18, nameIndex := 18, descriptorIndex := 19, attributes := #[] }, { accessFlags := 18, nameIndex := 22, descriptorIndex := 23, attributes := #[] }, { accessFlags := 18, nameIndex := 26, descriptorIndex := 23, attributes := #[] }, { accessFlags := 18, nameIndex := 29, descriptorIndex := 30, attributes := #[] }, { accessFlags := 18, nameIndex := 33, descriptorIndex := 30, attributes := #[] }, { accessFlags := 18, nameIndex := 36, descriptorIndex := 30, attributes := #[] }, { accessFlags := 18, nameIndex := 39, descriptorIndex := 30, attributes := #[] }])
  fields := #[{ name := "id", type := (.object "java/lang/String"), accessFlags := 18, slot := 0, constantValue := 0 }, { name := "owner", type := (.object "java/lang/String"), accessFlags := 18, slot := 1, constantValue := 0 }, { name := "status", type := (.object "com/example/corestone/corestone/BulkRequest$Status"), accessFlags := 18, slot := 2, constantValue := 0 }, { name := "createdAt", type := (.object "java/time/Instant"), accessFlags := 18, slot := 3, constantValue := 0 }, { name := "updatedAt", type := (.object "java/time/Instant"), accessFlags := 18, slot := 4, constantValue := 0 }, { name := "received", type := .int, accessFlags := 18, slot := 5, constantValue := 0 }, { name := "created", type := .int, accessFlags := 18, slot := 6, constantValue := 0 }, { name := "updated", type := .int, accessFlags := 18, slot := 7, constantValue := 0 }, { name := "refused", type := .int, accessFlags := 18, slot := 8, constantValue := 0 }]
  methods := #[k8m0, k8m1, k8m2, k8m3, k8m4]
  instanceTypes := #[(.object "java/lang/String"), (.object "java/lang/String"), (.object "com/example/corestone/corestone/BulkRequest$Status"), (.object "java/time/Instant"), (.object "java/time/Instant"), .int, .int, .int, .int]
  staticTypes := #[]
  resolved := Array.replicate 125 none
  statics := none }

def pool9 : Array CpInfo := pool [(1, u "java/lang/Cloneable"), (0, .class_ 1), (0, u "java/lang/Object"), (0, .class_ 3)] 3

/-- java/lang/Cloneable -/
def k9 : Class := { plain "java/lang/Cloneable" (some 0) with
  accessFlags := 1537
  interfaces := #[]
  cf := some (fileOf pool9 2 #[] #[] 1537 4 #[] #[])
  fields := #[]
  methods := #[]
  instanceTypes := #[]
  staticTypes := #[]
  resolved := Array.replicate 8 none
  statics := none }

/-- the primitive byte -/
def k10 : Class := { plain "byte" none with kind := .primitive 'B', accessFlags := 0x411 }
/-- [B -/
def k11 : Class := { plain "[B" (some 0) with kind := .array 10 .byte, interfaces := #[9, 4], accessFlags := 1041 }

def heap : Heap := #[{ cls := 6, slots := #[.ref 1, .ref 2, .ref 3, .ref 4, .null], vm := .statics 6 },
  { cls := 6, slots := #[.null, .int 0, .int 0], vm := .none },
  { cls := 6, slots := #[.null, .int 1, .int 0], vm := .none },
  { cls := 6, slots := #[.null, .int 2, .int 0], vm := .none },
  { cls := 6, slots := #[.null, .int 3, .int 0], vm := .none }]
def classes : Array Class := #[k0, k1, k2, k3, k4, k5, k6, k7, k8, k9, k10, k11]
def interned : List (Array UInt16 × Addr) := []
def slotsUsed : Nat := 17
def theMethod : MethodId := ⟨1, 1⟩
def args0 : Array Value := #[.int 5, .int 3, .int 7, .int 2]
def aboutOver (below : List Frame) : State where
  vm := { classes := classes, interned := interned.toArray }
  heap := heap
  slotsUsed := slotsUsed
  threads := #[{ frames := .invoking theMethod args0 :: below }]
def below0 : List Frame := [.native { method := ⟨0, 0⟩, args := #[] }]
def about1 : State := aboutOver below0
def p0 : Program := .bare "" "" ""
def e0 : Env := launch0.env 0 0 0
theorem w_frames : about1.frames = Frame.invoking theMethod args0 :: below0 := rfl
set_option maxRecDepth 65536 in
theorem w_args : argsFit about1.vm theMethod args0 = true := by decide +kernel
set_option maxRecDepth 65536 in
theorem w_heap : heapFits about1 = true := by decide +kernel
set_option maxRecDepth 65536 in
theorem w_runnable : about1.curStatus? = some .runnable := by decide +kernel
set_option maxRecDepth 65536 in
theorem w_alone : about1.alone = true := by decide +kernel
set_option maxRecDepth 65536 in
theorem w_named : about1.methodNamed? x = some theMethod := by decide +kernel
set_option maxRecDepth 65536 in
theorem w_hears : about1.hears theMethod below0 = true := by decide +kernel
set_option maxRecDepth 65536 in
theorem w_ripe : about1.ripe theMethod args0 below0 = true := by decide +kernel
theorem w_running : about1.status = .running := rfl
set_option maxRecDepth 65536 in
theorem w_room : about1.hasRoom e0.platform room_1 = true :=
  launch0.hasRoom_least _ room_1 (by decide +kernel) (by decide +kernel) (by decide +kernel) (by decide +kernel) (by decide +kernel) (by decide +kernel)
theorem allAtoms_all (ts : List Jvm.Cond) (a : Array Jvm.Value) (st : Jvm.State) : (allAtoms ts).before a st = ts.all (fun c => c.before a st) := by
  induction ts with
  | nil => rfl
  | cons c t ih =>
    show (Jvm.Cond.and c (allAtoms t)).before a st = _
    rw [Jvm.Cond.before_and, ih, List.all_cons]
def words1 : List Jvm.Cond := Jvm.Cond.code x code maxLocals ret :: tables_1
/-- a 'code' word, met by the world's own term for the bytes: nothing is compared byte by byte -/
theorem code_word {y : MethodName} {bytes : ByteArray} {mx : Nat} {rt : Option FieldType} {a : Array Value} {s : State} {m : MethodId} {meth : Method} {c : Code} (h1 : s.methodNamed? y = some m) (h2 : s.vm.method? m = some meth) (h3 : meth.code = some c) (h4 : c.code = bytes)
    (h5 : (c.maxLocals == mx && c.exceptionTable.isEmpty && decide (c.maxStack ≤ mostOperands) && decide (meth.sig.returnType = rt) && !meth.locks && decide (parseMethodDescriptor y.desc = some meth.sig)) = true) : (Jvm.Cond.code y bytes mx rt).before a s = true := by
  simp only [Bool.and_eq_true, beq_iff_eq, Bool.not_eq_true', decide_eq_true_eq] at h5
  obtain ⟨⟨⟨⟨⟨g1, g2⟩, g3⟩, g4⟩, g5⟩, g6⟩ := h5
  simp [Cond.before, Cond.holds, Cond.value, h1, h2, h3, h4, g1, g2, g3, g4, g5, g6]
def isCode : Jvm.Cond → Bool
  | .code _ _ _ _ => true
  | _ => false
theorem all_split {L : List Jvm.Cond} {P : Jvm.Cond → Bool} (h1 : L.all (fun c => isCode c || P c) = true) (h2 : ∀ c ∈ L.filter isCode, P c = true) : L.all P = true := by
  refine List.all_eq_true.mpr fun c hc => ?_
  have h := List.all_eq_true.mp h1 c hc
  rcases Bool.eq_false_or_eq_true (isCode c) with hi | hi
  · exact h2 c (List.mem_filter.mpr ⟨hc, hi⟩)
  · simpa [hi] using h
set_option maxRecDepth 65536 in
theorem w_c0 : (Jvm.Cond.code x code maxLocals ret).before args0 about1 = true := code_word (m := ⟨1, 1⟩) (meth := k1m1) (c := k1c1) (by decide +kernel) rfl rfl rfl (by decide +kernel)
set_option maxRecDepth 65536 in
theorem w_c1 : (Jvm.Cond.code ({ cls := "com/example/corestone/corestone/BulkRequest", name := "queued", desc := "(Ljava/lang/String;Ljava/lang/String;ILjava/time/Instant;)Lcom/example/corestone/corestone/BulkRequest;" } : Jvm.MethodName) prog_2_method_2_code (4 : Nat) (Option.some (Jvm.ClassFile.FieldType.object "com/example/corestone/corestone/BulkRequest"))).before args0 about1 = true := code_word (m := ⟨8, 1⟩) (meth := k8m1) (c := k8c1) (by decide +kernel) rfl rfl rfl (by decide +kernel)
set_option maxRecDepth 65536 in
theorem w_c2 : (Jvm.Cond.code ({ cls := "com/example/corestone/corestone/BulkRequest", name := "<init>", desc := "(Ljava/lang/String;Ljava/lang/String;Lcom/example/corestone/corestone/BulkRequest$Status;Ljava/time/Instant;Ljava/time/Instant;IIII)V" } : Jvm.MethodName) prog_2_method_1_code (10 : Nat) (Option.none : Option Jvm.ClassFile.FieldType)).before args0 about1 = true := code_word (m := ⟨8, 0⟩) (meth := k8m0) (c := k8c0) (by decide +kernel) rfl rfl rfl (by decide +kernel)
set_option maxRecDepth 65536 in
theorem w_c3 : (Jvm.Cond.code ({ cls := "java/lang/Record", name := "<init>", desc := "()V" } : Jvm.MethodName) jdk_30_method_1_code (1 : Nat) (Option.none : Option Jvm.ClassFile.FieldType)).before args0 about1 = true := code_word (m := ⟨7, 0⟩) (meth := k7m0) (c := k7c0) (by decide +kernel) rfl rfl rfl (by decide +kernel)
set_option maxRecDepth 65536 in
theorem w_c4 : (Jvm.Cond.code ({ cls := "java/lang/Object", name := "<init>", desc := "()V" } : Jvm.MethodName) object_method_1_code (1 : Nat) (Option.none : Option Jvm.ClassFile.FieldType)).before args0 about1 = true := code_word (m := ⟨0, 0⟩) (meth := k0m0) (c := k0c0) (by decide +kernel) rfl rfl rfl (by decide +kernel)
set_option maxRecDepth 65536 in
theorem w_c5 : (Jvm.Cond.code ({ cls := "com/example/corestone/corestone/BulkRequest", name := "running", desc := "(IIILjava/time/Instant;)Lcom/example/corestone/corestone/BulkRequest;" } : Jvm.MethodName) prog_2_method_4_code (5 : Nat) (Option.some (Jvm.ClassFile.FieldType.object "com/example/corestone/corestone/BulkRequest"))).before args0 about1 = true := code_word (m := ⟨8, 2⟩) (meth := k8m2) (c := k8c2) (by decide +kernel) rfl rfl rfl (by decide +kernel)
set_option maxRecDepth 65536 in
theorem w_c6 : (Jvm.Cond.code ({ cls := "com/example/corestone/corestone/BulkRequest", name := "ended", desc := "(Ljava/time/Instant;)Lcom/example/corestone/corestone/BulkRequest;" } : Jvm.MethodName) prog_2_method_5_code (2 : Nat) (Option.some (Jvm.ClassFile.FieldType.object "com/example/corestone/corestone/BulkRequest"))).before args0 about1 = true := code_word (m := ⟨8, 3⟩) (meth := k8m3) (c := k8c3) (by decide +kernel) rfl rfl rfl (by decide +kernel)
set_option maxRecDepth 65536 in
theorem w_c7 : (Jvm.Cond.code ({ cls := "com/example/corestone/corestone/BulkRequest$Status", name := "ended", desc := "()Z" } : Jvm.MethodName) prog_5_method_4_code (1 : Nat) (Option.some Jvm.ClassFile.FieldType.boolean)).before args0 about1 = true := code_word (m := ⟨6, 0⟩) (meth := k6m0) (c := k6c0) (by decide +kernel) rfl rfl rfl (by decide +kernel)
set_option maxRecDepth 65536 in
theorem w_c8 : (Jvm.Cond.code ({ cls := "com/example/corestone/corestone/BulkRequest", name := "status", desc := "()Lcom/example/corestone/corestone/BulkRequest$Status;" } : Jvm.MethodName) prog_2_method_11_code (1 : Nat) (Option.some (Jvm.ClassFile.FieldType.object "com/example/corestone/corestone/BulkRequest$Status"))).before args0 about1 = true := code_word (m := ⟨8, 4⟩) (meth := k8m4) (c := k8c4) (by decide +kernel) rfl rfl rfl (by decide +kernel)
def codes1 : List Jvm.Cond := [Jvm.Cond.code x code maxLocals ret, Jvm.Cond.code ({ cls := "com/example/corestone/corestone/BulkRequest", name := "queued", desc := "(Ljava/lang/String;Ljava/lang/String;ILjava/time/Instant;)Lcom/example/corestone/corestone/BulkRequest;" } : Jvm.MethodName) prog_2_method_2_code (4 : Nat) (Option.some (Jvm.ClassFile.FieldType.object "com/example/corestone/corestone/BulkRequest")), Jvm.Cond.code ({ cls := "com/example/corestone/corestone/BulkRequest", name := "<init>", desc := "(Ljava/lang/String;Ljava/lang/String;Lcom/example/corestone/corestone/BulkRequest$Status;Ljava/time/Instant;Ljava/time/Instant;IIII)V" } : Jvm.MethodName) prog_2_method_1_code (10 : Nat) (Option.none : Option Jvm.ClassFile.FieldType), Jvm.Cond.code ({ cls := "java/lang/Record", name := "<init>", desc := "()V" } : Jvm.MethodName) jdk_30_method_1_code (1 : Nat) (Option.none : Option Jvm.ClassFile.FieldType), Jvm.Cond.code ({ cls := "java/lang/Object", name := "<init>", desc := "()V" } : Jvm.MethodName) object_method_1_code (1 : Nat) (Option.none : Option Jvm.ClassFile.FieldType), Jvm.Cond.code ({ cls := "com/example/corestone/corestone/BulkRequest", name := "running", desc := "(IIILjava/time/Instant;)Lcom/example/corestone/corestone/BulkRequest;" } : Jvm.MethodName) prog_2_method_4_code (5 : Nat) (Option.some (Jvm.ClassFile.FieldType.object "com/example/corestone/corestone/BulkRequest")), Jvm.Cond.code ({ cls := "com/example/corestone/corestone/BulkRequest", name := "ended", desc := "(Ljava/time/Instant;)Lcom/example/corestone/corestone/BulkRequest;" } : Jvm.MethodName) prog_2_method_5_code (2 : Nat) (Option.some (Jvm.ClassFile.FieldType.object "com/example/corestone/corestone/BulkRequest")), Jvm.Cond.code ({ cls := "com/example/corestone/corestone/BulkRequest$Status", name := "ended", desc := "()Z" } : Jvm.MethodName) prog_5_method_4_code (1 : Nat) (Option.some Jvm.ClassFile.FieldType.boolean), Jvm.Cond.code ({ cls := "com/example/corestone/corestone/BulkRequest", name := "status", desc := "()Lcom/example/corestone/corestone/BulkRequest$Status;" } : Jvm.MethodName) prog_2_method_11_code (1 : Nat) (Option.some (Jvm.ClassFile.FieldType.object "com/example/corestone/corestone/BulkRequest$Status"))]
set_option maxRecDepth 65536 in
theorem codes_eq : words1.filter isCode = codes1 := rfl
theorem w_codes : ∀ c ∈ words1.filter isCode, c.before args0 about1 = true := by
  rw [codes_eq]
  intro c hc
  simp only [codes1, List.mem_cons, List.not_mem_nil, or_false] at hc
  rcases hc with rfl | rfl | rfl | rfl | rfl | rfl | rfl | rfl | rfl
  · exact w_c0
  · exact w_c1
  · exact w_c2
  · exact w_c3
  · exact w_c4
  · exact w_c5
  · exact w_c6
  · exact w_c7
  · exact w_c8
set_option maxRecDepth 65536 in
theorem w_t1 : (words1.take 24).all (fun c => isCode c || c.before args0 about1) = true := by decide +kernel
set_option maxRecDepth 65536 in
theorem w_t2 : ((words1.drop 24).take 24).all (fun c => isCode c || c.before args0 about1) = true := by decide +kernel
set_option maxRecDepth 65536 in
theorem w_t3 : ((words1.drop 24).drop 24).all (fun c => isCode c || c.before args0 about1) = true := by decide +kernel
theorem w_tables : (allAtoms (Jvm.Cond.code x code maxLocals ret :: tables_1)).before args0 about1 = true := by
  rw [allAtoms_all]
  show words1.all (fun c => c.before args0 about1) = true
  refine all_split ?_ w_codes
  rw [← List.take_append_drop 24 words1, List.all_append, w_t1, ← List.take_append_drop 24 (words1.drop 24), List.all_append, w_t2, w_t3]
  rfl
set_option maxRecDepth 65536 in
theorem w_case : (Jvm.Cond.and given_1 narrow_1).before args0 about1 = true := by decide +kernel
theorem w_applies : (headSpec (Jvm.Cond.code x code maxLocals ret :: tables_1) room_1).applies x e0.platform about1 = true :=
  (Spec.applies_iff w_frames).mpr ⟨w_running, w_runnable, w_alone, w_named, w_hears, w_ripe, w_room, w_tables⟩
theorem atStart : AtStart classFile x code maxLocals ret World_1 tables_1 room_1 Calls_1 rest_1 Pre_1 launch0 p0 e0 about1 theMethod args0 below0 :=
  ⟨lists_1, trivial, launch0.admits_env _ _ _, launch0.least_env, fairChoices_fair.cas, fairChoices_fair.clock, w_frames, w_args, w_heap, w_applies, trivial, trivial, w_case⟩
end start1
theorem witness_1 : WitnessClaimed_1 := ⟨start1.p0, start1.e0, start1.about1, start1.theMethod, start1.args0, start1.below0, start1.atStart⟩
end Jvm.Pilot.@@N@@
