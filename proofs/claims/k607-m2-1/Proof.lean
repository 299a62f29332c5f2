import JvmDerived
import JvmDerived.Pilot.@@N@@Statement
import JvmDerived.Pilot.@@N@@Code
set_option linter.unusedVariables false
set_option linter.unusedSimpArgs false
namespace Jvm.RoadKit
open Sem ClassFile Op Lib Jvm.Stand Jvm.Free Jvm.LawKit
section New
variable {p : Program} {l : Launch} {e : Env} {R : Room} {s : State} {m : MethodId} {args : Array Value} {below : List Frame} {meth : Method} {c : Code} {T : State} {locs : List Loc} {cells slots : Nat}
theorem retI (X : Stand p l e R s m args below meth c T locs cells slots) (hx : p.tables.exec = Jvm.exec) {pc : Nat} {Ls : Array Slot} {z : Int32} {rest : List Value} (hret : meth.sig.returnType = some .int) (hd : decode c.code pc = .ok (.ireturn, 1)) {fs : List Frame}
    (hl : ∀ (f : JFrame) (acts : List Action), f.method = m → f.locked = none → f.entered = [] → (doReturn e (T.setTop f) acts (some (.int z))).1 = T.setFrames fs) : Steps p.tables e below (T.setTop (mkF m pc Ls (.int z :: rest))) (T.setFrames fs) := by
  have hm' : T.vm.method? m = some meth := X.method'
  have hn : narrow .int (.int z) = .int z := rfl
  show Steps p.tables e below (T.setTop { method := m, pc := pc, locals := Ls, stack := _ :: rest, locked := none }) _
  jvm_step X.here [X.here.top, hx, hd, hm', hret, hn]
  first | (intro acts; rw [hl _ acts rfl rfl rfl]) | rw [hl _ _ rfl rfl rfl]
  exact Steps.refl _
end New
end Jvm.RoadKit
namespace Jvm.Pilot.@@N@@
open Jvm Jvm.ClassFile Sem Op Lib Jvm.Free Jvm.Stand Jvm.LawKit Jvm.RoadKit Bundle Jvm.Pilot.@@N@@.Jvm.D
def QT (n0 : Nat) (v : Option Value) (h : Heap) (L : List Loc) : Prop := v = some (.int 1) ∧ Fr n0 L
def QP (r : Option Value) (h0 : Heap) (n0 : Nat) (v : Option Value) (h : Heap) (L : List Loc) : Prop := v = r ∧ Fr n0 L ∧ h = h0
theorem own_fld {Z : State} {args : Array Value} {t : Term} {C n d : String} {a : Addr} {i : Int32} (ev : t.eval args Z none [] Z = some (.ref a)) (h : (Cond.eq (Term.field t C n d) (Term.int i)).value args Z none Z [] = some true) : Fld Z Z.heap a C n d (.int i) := by
  have e := fld_at (C := C) (n := n) (dd := d) ev
  refine Fld.start ?_
  obtain ⟨x, y, h1, h2, k1, k2⟩ := cmp_v (Or.inl h)
  have h3 : y = .int i := (Option.some.inj ((Term.int_eval i).symm.trans h2)).symm
  subst h3
  obtain ⟨z, rfl⟩ := k2
  have q : z = i := by simpa [Cond.value, h1, h2] using h
  rw [← e, h1, q]
theorem own_fldn {Z : State} {args : Array Value} {t : Term} {C n d : String} {a : Addr} (ev : t.eval args Z none [] Z = some (.ref a)) (h : (Cond.eq (Term.field t C n d) Term.null).value args Z none Z [] = some true) : Fld Z Z.heap a C n d .null := Fld.start ((fld_at ev).symm.trans (null_v h))
theorem own_sti {Z : State} {args : Array Value} {C n d : String} {i : Int32} (h : (Cond.eq (Term.static C n d) (Term.int i)).value args Z none Z [] = some true) : (Term.static C n d).eval args Z none [] Z = some (.int i) := by
  obtain ⟨x, y, h1, h2, k1, k2⟩ := cmp_v (Or.inl h)
  have h3 : y = .int i := (Option.some.inj ((Term.int_eval i).symm.trans h2)).symm
  subst h3
  obtain ⟨z, rfl⟩ := k2
  have q : z = i := by simpa [Cond.value, h1, h2] using h
  rw [h1, q]
theorem own_sta_keep {Z : State} {h h' : Heap} {C n d : String} {v : Value} {ws : List Addr} (F : Sta Z h C n d v) (K : Keep h h' ws) (q : ∀ x ∈ ws, ∀ c : Cell, h[x]? = some c → c.vm.isStatics = false) : Sta Z h' C n d v := by
  obtain ⟨cf, i, k, f, st, cell, h1, h2, h3, h4, h5, h6, h7⟩ := F
  have ne : st ∉ ws := fun z => by rw [q st z cell h5] at h6; cases h6
  exact ⟨cf, i, k, f, st, cell, h1, h2, h3, h4, K.2.1 st cell h5 ne, h6, h7⟩
theorem own_ns {h : Heap} {x : Addr} {ws : List Addr} (p : ∀ c : Cell, h[x]? = some c → c.vm.isStatics = false) (q : ∀ y ∈ ws, ∀ c : Cell, h[y]? = some c → c.vm.isStatics = false) : ∀ y ∈ x :: ws, ∀ c : Cell, h[y]? = some c → c.vm.isStatics = false := fun y hy => (List.mem_cons.mp hy).elim (fun e => e ▸ p) (q y)
theorem own_notin {a x : Addr} {ws : List Addr} (p : a ≠ x) (q : a ∉ ws) : a ∉ x :: ws := fun h => (List.mem_cons.mp h).elim p q
theorem own_mod5 (x : Int32) : ((x &&& (2147483647 : Int32)) % (5 : Int32)) = (0 : Int32) ∨ ((x &&& (2147483647 : Int32)) % (5 : Int32)) = (1 : Int32) ∨ ((x &&& (2147483647 : Int32)) % (5 : Int32)) = (2 : Int32) ∨ ((x &&& (2147483647 : Int32)) % (5 : Int32)) = (3 : Int32) ∨ ((x &&& (2147483647 : Int32)) % (5 : Int32)) = (4 : Int32) := by
  have h := c_and x (2147483647 : Int32) (by decide)
  have h2 := (c_iremV (x &&& (2147483647 : Int32)) (5 : Int32)).1 h.1 (by decide)
  have e : (5 : Int32).toInt = 5 := by decide
  have e0 : (0 : Int32).toInt = 0 := by decide
  have e1 : (1 : Int32).toInt = 1 := by decide
  have e2 : (2 : Int32).toInt = 2 := by decide
  have e3 : (3 : Int32).toInt = 3 := by decide
  have e4 : (4 : Int32).toInt = 4 := by decide
  simp only [← Int32.toInt_inj, e0, e1, e2, e3, e4]
  omega
theorem tw_3 {a0 : Array Value} {Z : State} (hw : ∀ d ∈ tables_1, d.before a0 Z = true) : (Jvm.Cond.initialized "com/example/offer/offer/model/TransferState").before a0 Z = true := hw _ (List.mem_of_getElem? (i := 3) rfl)
theorem tw_4 {a0 : Array Value} {Z : State} (hw : ∀ d ∈ tables_1, d.before a0 Z = true) : (Jvm.Cond.laysStatic "com/example/offer/offer/model/TransferState" "REQUESTED" "Lcom/example/offer/offer/model/TransferState;").before a0 Z = true := hw _ (List.mem_of_getElem? (i := 4) rfl)
abbrev S_0 (Z : State) (h : Heap) (v : Value) : Prop := Sta Z h "com/example/offer/offer/model/TransferState" "REQUESTED" "Lcom/example/offer/offer/model/TransferState;" v
abbrev E_0 (Z : State) (h : Heap) (a : Addr) : Prop := Exa Z h a "com/example/offer/offer/model/TransferState"
theorem tw_7 {a0 : Array Value} {Z : State} (hw : ∀ d ∈ tables_1, d.before a0 Z = true) : (Jvm.Cond.laysStatic "com/example/offer/offer/model/TransferState" "STARTED" "Lcom/example/offer/offer/model/TransferState;").before a0 Z = true := hw _ (List.mem_of_getElem? (i := 7) rfl)
abbrev S_1 (Z : State) (h : Heap) (v : Value) : Prop := Sta Z h "com/example/offer/offer/model/TransferState" "STARTED" "Lcom/example/offer/offer/model/TransferState;" v
theorem tw_9 {a0 : Array Value} {Z : State} (hw : ∀ d ∈ tables_1, d.before a0 Z = true) : (Jvm.Cond.laysStatic "com/example/offer/offer/model/TransferState" "SUSPENDED" "Lcom/example/offer/offer/model/TransferState;").before a0 Z = true := hw _ (List.mem_of_getElem? (i := 9) rfl)
abbrev S_2 (Z : State) (h : Heap) (v : Value) : Prop := Sta Z h "com/example/offer/offer/model/TransferState" "SUSPENDED" "Lcom/example/offer/offer/model/TransferState;" v
theorem tw_11 {a0 : Array Value} {Z : State} (hw : ∀ d ∈ tables_1, d.before a0 Z = true) : (Jvm.Cond.laysStatic "com/example/offer/offer/model/TransferState" "COMPLETED" "Lcom/example/offer/offer/model/TransferState;").before a0 Z = true := hw _ (List.mem_of_getElem? (i := 11) rfl)
abbrev S_3 (Z : State) (h : Heap) (v : Value) : Prop := Sta Z h "com/example/offer/offer/model/TransferState" "COMPLETED" "Lcom/example/offer/offer/model/TransferState;" v
theorem tw_13 {a0 : Array Value} {Z : State} (hw : ∀ d ∈ tables_1, d.before a0 Z = true) : (Jvm.Cond.laysStatic "com/example/offer/offer/model/TransferState" "TERMINATED" "Lcom/example/offer/offer/model/TransferState;").before a0 Z = true := hw _ (List.mem_of_getElem? (i := 13) rfl)
abbrev S_4 (Z : State) (h : Heap) (v : Value) : Prop := Sta Z h "com/example/offer/offer/model/TransferState" "TERMINATED" "Lcom/example/offer/offer/model/TransferState;" v
theorem tw_16 {a0 : Array Value} {Z : State} (hw : ∀ d ∈ tables_1, d.before a0 Z = true) : (Jvm.Cond.initialized "com/example/offer/offer/model/Role").before a0 Z = true := hw _ (List.mem_of_getElem? (i := 16) rfl)
theorem tw_17 {a0 : Array Value} {Z : State} (hw : ∀ d ∈ tables_1, d.before a0 Z = true) : (Jvm.Cond.laysStatic "com/example/offer/offer/model/Role" "CONSUMER" "Lcom/example/offer/offer/model/Role;").before a0 Z = true := hw _ (List.mem_of_getElem? (i := 17) rfl)
abbrev S_5 (Z : State) (h : Heap) (v : Value) : Prop := Sta Z h "com/example/offer/offer/model/Role" "CONSUMER" "Lcom/example/offer/offer/model/Role;" v
abbrev E_1 (Z : State) (h : Heap) (a : Addr) : Prop := Exa Z h a "com/example/offer/offer/model/Role"
theorem tw_26 {a0 : Array Value} {Z : State} (hw : ∀ d ∈ tables_1, d.before a0 Z = true) : (Jvm.Cond.laysStatic "com/example/offer/offer/model/Role" "PROVIDER" "Lcom/example/offer/offer/model/Role;").before a0 Z = true := hw _ (List.mem_of_getElem? (i := 26) rfl)
abbrev S_6 (Z : State) (h : Heap) (v : Value) : Prop := Sta Z h "com/example/offer/offer/model/Role" "PROVIDER" "Lcom/example/offer/offer/model/Role;" v
abbrev F_0 (Z : State) (h : Heap) (a : Addr) (v : Value) : Prop := Fld Z h a "java/lang/Enum" "ordinal" "I" v
theorem tw_0 {a0 : Array Value} {Z : State} (hw : ∀ d ∈ tables_1, d.before a0 Z = true) : (Jvm.Cond.classLink "com/example/offer/offer/model/TransferStateIsFinalPinLaw" (7 : Nat) "com/example/offer/offer/model/TransferState").before a0 Z = true := hw _ (List.mem_of_getElem? (i := 0) rfl)
theorem tw_1 {a0 : Array Value} {Z : State} (hw : ∀ d ∈ tables_1, d.before a0 Z = true) : (Jvm.Cond.arrayOver (Jvm.ClassFile.FieldType.object "com/example/offer/offer/model/TransferState")).before a0 Z = true := hw _ (List.mem_of_getElem? (i := 1) rfl)
theorem tw_2 {a0 : Array Value} {Z : State} (hw : ∀ d ∈ tables_1, d.before a0 Z = true) : (Jvm.Cond.fieldLink "com/example/offer/offer/model/TransferStateIsFinalPinLaw" (9 : Nat) "com/example/offer/offer/model/TransferState" "REQUESTED" "Lcom/example/offer/offer/model/TransferState;").before a0 Z = true := hw _ (List.mem_of_getElem? (i := 2) rfl)
theorem tw_6 {a0 : Array Value} {Z : State} (hw : ∀ d ∈ tables_1, d.before a0 Z = true) : (Jvm.Cond.fieldLink "com/example/offer/offer/model/TransferStateIsFinalPinLaw" (13 : Nat) "com/example/offer/offer/model/TransferState" "STARTED" "Lcom/example/offer/offer/model/TransferState;").before a0 Z = true := hw _ (List.mem_of_getElem? (i := 6) rfl)
theorem tw_8 {a0 : Array Value} {Z : State} (hw : ∀ d ∈ tables_1, d.before a0 Z = true) : (Jvm.Cond.fieldLink "com/example/offer/offer/model/TransferStateIsFinalPinLaw" (16 : Nat) "com/example/offer/offer/model/TransferState" "SUSPENDED" "Lcom/example/offer/offer/model/TransferState;").before a0 Z = true := hw _ (List.mem_of_getElem? (i := 8) rfl)
theorem tw_10 {a0 : Array Value} {Z : State} (hw : ∀ d ∈ tables_1, d.before a0 Z = true) : (Jvm.Cond.fieldLink "com/example/offer/offer/model/TransferStateIsFinalPinLaw" (19 : Nat) "com/example/offer/offer/model/TransferState" "COMPLETED" "Lcom/example/offer/offer/model/TransferState;").before a0 Z = true := hw _ (List.mem_of_getElem? (i := 10) rfl)
theorem tw_12 {a0 : Array Value} {Z : State} (hw : ∀ d ∈ tables_1, d.before a0 Z = true) : (Jvm.Cond.fieldLink "com/example/offer/offer/model/TransferStateIsFinalPinLaw" (22 : Nat) "com/example/offer/offer/model/TransferState" "TERMINATED" "Lcom/example/offer/offer/model/TransferState;").before a0 Z = true := hw _ (List.mem_of_getElem? (i := 12) rfl)
set_option maxRecDepth 65536 in
set_option maxHeartbeats 40000000 in
theorem sg0_25 {p : Program} {l : Launch} {e : Env} {s : State} {m : MethodId} {below : List Frame} {meth : Method} {c : Code} {T0 : State} {locs : List Loc} {Z : State} {a0 : Array Value} (p0 : Int32) (p1 : Int32) (p2 : Int32) (a_REQUESTED : Addr) (a_STARTED : Addr) (a_SUSPENDED : Addr) (a_COMPLETED : Addr) (a_TERMINATED : Addr) {h0 : Heap} {n0 : Nat} (X0 : Stand p l e room_1 s m #[(.int p0), (.int p1), (.int p2)] below meth c T0 locs 0 0) (hx : p.tables.exec = Jvm.exec) (hZ : Z.Warmed39 s.vm) (hw : ∀ d ∈ tables_1, d.before a0 Z = true) (hby : c.code = code) (hml : c.maxLocals = 10) (hown : s.vm.findClass "com/example/offer/offer/model/TransferStateIsFinalPinLaw" = some m.cls) (e0 : T0.heap = h0) (N0 : Fr n0 locs) (Z0 : n0 ≤ h0.size) (f1 : S_0 Z h0 (.ref a_REQUESTED)) (f2 : E_0 Z h0 a_REQUESTED) (f3 : S_1 Z h0 (.ref a_STARTED)) (f4 : E_0 Z h0 a_STARTED) (f5 : S_2 Z h0 (.ref a_SUSPENDED)) (f6 : E_0 Z h0 a_SUSPENDED) (f7 : S_3 Z h0 (.ref a_COMPLETED)) (f8 : E_0 Z h0 a_COMPLETED) (f9 : S_4 Z h0 (.ref a_TERMINATED)) (f10 : E_0 Z h0 a_TERMINATED) :
    ∃ (T : State) (h : Heap) (L : List Loc) (b23 : Addr) (kc24 : ClassId), Stand p l e room_1 s m #[(.int p0), (.int p1), (.int p2)] below meth c T L 1 5 ∧ T.heap = h ∧ Fr n0 L ∧ Keep h0 h [] ∧ h0.size ≤ b23 ∧ Arv Z h b23 kc24 (.object "com/example/offer/offer/model/TransferState") (5 : Int32) [(.ref a_REQUESTED), (.ref a_STARTED), (.ref a_SUSPENDED), (.ref a_COMPLETED), (.ref a_TERMINATED)] .null ∧ Ovr Z kc24 "com/example/offer/offer/model/TransferState" ∧ (∀ target, Steps p.tables e below (T.setTop (mkF m 35 #[.val (.int p0), .val (.int p1), .val (.int p2), .val (.ref b23), .unset, .unset, .unset, .unset, .unset, .unset] [])) target → Steps p.tables e below (T0.setTop (mkF m 0 #[.val (.int p0), .val (.int p1), .val (.int p2), .unset, .unset, .unset, .unset, .unset, .unset, .unset] [])) target) := by
  obtain ⟨T1, h1, k1, X1, e1, E1, A1, O1, st1⟩ := newR X0 hx hZ hown (tw_0 hw) (tw_1 hw) e0 (g := (mkF m 1 #[.val (.int p0), .val (.int p1), .val (.int p2), .unset, .unset, .unset, .unset, .unset, .unset, .unset] [(.int 5)])) rfl (hb hby at_1) rfl (by decide : ¬ ((5 : Int32) < (0 : Int32))) (cap := 5) (by decide : (5 : Int32).toNatClampNeg ≤ 5) (by decide) (by decide) (by decide)
  obtain ⟨b23, g1⟩ : ∃ z, z = h0.size := ⟨_, rfl⟩
  rw [← g1] at A1 st1
  obtain ⟨kc24, gk1⟩ : ∃ z, z = k1 := ⟨_, rfl⟩
  rw [← gk1] at A1 O1
  have sz_b23 : h0.size ≤ b23 := Nat.le_trans (Nat.le_refl _) (Nat.le_of_eq g1.symm)
  have g_b23 : n0 ≤ b23 := Nat.le_trans Z0 sz_b23
  have KK1 : Keep h0 h1 [] := (Keep.refl h0 []).ext E1
  have V1 : Arv Z h1 b23 kc24 (.object "com/example/offer/offer/model/TransferState") (5 : Int32) [.null, .null, .null, .null, .null] .null := (Arv.new A1 (by decide)).pad (pad_rep [] .null 5)
  have u2 : S_0 Z h1 (.ref a_REQUESTED) := Sta.ext E1 f1
  obtain ⟨T3, X3, e3, st3⟩ := getS2 X1 hx hZ hown (host := "") (Or.inl (tw_2 hw)) Via.refl e1 u2 (g := (mkF m 6 #[.val (.int p0), .val (.int p1), .val (.int p2), .unset, .unset, .unset, .unset, .unset, .unset, .unset] [(.int 0), (.ref b23), (.ref b23)])) rfl (hb hby at_6)
  have va4 := V1
  obtain ⟨cl4, Ar4, q4, S4, N4_, H4, G4⟩ := va4
  have hin4 : ¬ ((0 : Int32) < 0 ∨ cl4.slots.size ≤ ((0 : Int32)).toNatClampNeg) := inb_of S4 ⟨by decide, by decide⟩
  have u5 : E_0 Z h1 a_REQUESTED := Exa.ext E1 f2
  obtain ⟨T6, h6, X6, e6, W6, st6⟩ := stR X3 hx hZ e3 Ar4 (j := (0 : Int32)) hin4 rfl (Sto.ofV Ar4 q4 O1 (Ins.self u5)) (g := (mkF m 9 #[.val (.int p0), .val (.int p1), .val (.int p2), .unset, .unset, .unset, .unset, .unset, .unset, .unset] [(.ref a_REQUESTED), (.int 0), (.ref b23), (.ref b23)])) rfl rfl (hb hby at_9)
  have Vw6 : Arv Z h6 b23 kc24 (.object "com/example/offer/offer/model/TransferState") (5 : Int32) [(.ref a_REQUESTED), .null, .null, .null, .null] .null := Arv.set Ar4 q4 S4 N4_ H4 G4 rfl W6 0 rfl (Nat.le_of_ble_eq_true rfl)
  have KK6 : Keep h0 h6 [] := KK1.wr W6 (Or.inr sz_b23)
  have N6 := Fr.snoc X6 N0 g_b23
  have u7 : S_1 Z h1 (.ref a_STARTED) := Sta.ext E1 f3
  have u8 : S_1 Z h6 (.ref a_STARTED) := Sta.wr W6 u7
  obtain ⟨T9, X9, e9, st9⟩ := getS2 X6 hx hZ hown (host := "") (Or.inl (tw_6 hw)) Via.refl e6 u8 (g := (mkF m 12 #[.val (.int p0), .val (.int p1), .val (.int p2), .unset, .unset, .unset, .unset, .unset, .unset, .unset] [(.int 1), (.ref b23), (.ref b23)])) rfl (hb hby at_12)
  have va10 := Vw6
  obtain ⟨cl10, Ar10, q10, S10, N10_, H10, G10⟩ := va10
  have hin10 : ¬ ((1 : Int32) < 0 ∨ cl10.slots.size ≤ ((1 : Int32)).toNatClampNeg) := inb_of S10 ⟨by decide, by decide⟩
  have u11 : E_0 Z h1 a_STARTED := Exa.ext E1 f4
  have u12 : E_0 Z h6 a_STARTED := Exa.wr W6 u11
  obtain ⟨T13, h13, X13, e13, W13, st13⟩ := stR X9 hx hZ e9 Ar10 (j := (1 : Int32)) hin10 rfl (Sto.ofV Ar10 q10 O1 (Ins.self u12)) (g := (mkF m 15 #[.val (.int p0), .val (.int p1), .val (.int p2), .unset, .unset, .unset, .unset, .unset, .unset, .unset] [(.ref a_STARTED), (.int 1), (.ref b23), (.ref b23)])) rfl rfl (hb hby at_15)
  have Vw13 : Arv Z h13 b23 kc24 (.object "com/example/offer/offer/model/TransferState") (5 : Int32) [(.ref a_REQUESTED), (.ref a_STARTED), .null, .null, .null] .null := Arv.set Ar10 q10 S10 N10_ H10 G10 rfl W13 1 rfl (Nat.le_of_ble_eq_true rfl)
  have KK13 : Keep h0 h13 [] := KK6.wr W13 (Or.inr sz_b23)
  have N13 := Fr.snoc X13 N6 g_b23
  have u14 : S_2 Z h1 (.ref a_SUSPENDED) := Sta.ext E1 f5
  have u15 : S_2 Z h6 (.ref a_SUSPENDED) := Sta.wr W6 u14
  have u16 : S_2 Z h13 (.ref a_SUSPENDED) := Sta.wr W13 u15
  obtain ⟨T17, X17, e17, st17⟩ := getS2 X13 hx hZ hown (host := "") (Or.inl (tw_8 hw)) Via.refl e13 u16 (g := (mkF m 18 #[.val (.int p0), .val (.int p1), .val (.int p2), .unset, .unset, .unset, .unset, .unset, .unset, .unset] [(.int 2), (.ref b23), (.ref b23)])) rfl (hb hby at_18)
  have va18 := Vw13
  obtain ⟨cl18, Ar18, q18, S18, N18_, H18, G18⟩ := va18
  have hin18 : ¬ ((2 : Int32) < 0 ∨ cl18.slots.size ≤ ((2 : Int32)).toNatClampNeg) := inb_of S18 ⟨by decide, by decide⟩
  have u19 : E_0 Z h1 a_SUSPENDED := Exa.ext E1 f6
  have u20 : E_0 Z h6 a_SUSPENDED := Exa.wr W6 u19
  have u21 : E_0 Z h13 a_SUSPENDED := Exa.wr W13 u20
  obtain ⟨T22, h22, X22, e22, W22, st22⟩ := stR X17 hx hZ e17 Ar18 (j := (2 : Int32)) hin18 rfl (Sto.ofV Ar18 q18 O1 (Ins.self u21)) (g := (mkF m 21 #[.val (.int p0), .val (.int p1), .val (.int p2), .unset, .unset, .unset, .unset, .unset, .unset, .unset] [(.ref a_SUSPENDED), (.int 2), (.ref b23), (.ref b23)])) rfl rfl (hb hby at_21)
  have Vw22 : Arv Z h22 b23 kc24 (.object "com/example/offer/offer/model/TransferState") (5 : Int32) [(.ref a_REQUESTED), (.ref a_STARTED), (.ref a_SUSPENDED), .null, .null] .null := Arv.set Ar18 q18 S18 N18_ H18 G18 rfl W22 2 rfl (Nat.le_of_ble_eq_true rfl)
  have KK22 : Keep h0 h22 [] := KK13.wr W22 (Or.inr sz_b23)
  have N22 := Fr.snoc X22 N13 g_b23
  have u23 : S_3 Z h1 (.ref a_COMPLETED) := Sta.ext E1 f7
  have u24 : S_3 Z h6 (.ref a_COMPLETED) := Sta.wr W6 u23
  have u25 : S_3 Z h13 (.ref a_COMPLETED) := Sta.wr W13 u24
  have u26 : S_3 Z h22 (.ref a_COMPLETED) := Sta.wr W22 u25
  obtain ⟨T27, X27, e27, st27⟩ := getS2 X22 hx hZ hown (host := "") (Or.inl (tw_10 hw)) Via.refl e22 u26 (g := (mkF m 24 #[.val (.int p0), .val (.int p1), .val (.int p2), .unset, .unset, .unset, .unset, .unset, .unset, .unset] [(.int 3), (.ref b23), (.ref b23)])) rfl (hb hby at_24)
  have va28 := Vw22
  obtain ⟨cl28, Ar28, q28, S28, N28_, H28, G28⟩ := va28
  have hin28 : ¬ ((3 : Int32) < 0 ∨ cl28.slots.size ≤ ((3 : Int32)).toNatClampNeg) := inb_of S28 ⟨by decide, by decide⟩
  have u29 : E_0 Z h1 a_COMPLETED := Exa.ext E1 f8
  have u30 : E_0 Z h6 a_COMPLETED := Exa.wr W6 u29
  have u31 : E_0 Z h13 a_COMPLETED := Exa.wr W13 u30
  have u32 : E_0 Z h22 a_COMPLETED := Exa.wr W22 u31
  obtain ⟨T33, h33, X33, e33, W33, st33⟩ := stR X27 hx hZ e27 Ar28 (j := (3 : Int32)) hin28 rfl (Sto.ofV Ar28 q28 O1 (Ins.self u32)) (g := (mkF m 27 #[.val (.int p0), .val (.int p1), .val (.int p2), .unset, .unset, .unset, .unset, .unset, .unset, .unset] [(.ref a_COMPLETED), (.int 3), (.ref b23), (.ref b23)])) rfl rfl (hb hby at_27)
  have Vw33 : Arv Z h33 b23 kc24 (.object "com/example/offer/offer/model/TransferState") (5 : Int32) [(.ref a_REQUESTED), (.ref a_STARTED), (.ref a_SUSPENDED), (.ref a_COMPLETED), .null] .null := Arv.set Ar28 q28 S28 N28_ H28 G28 rfl W33 3 rfl (Nat.le_of_ble_eq_true rfl)
  have KK33 : Keep h0 h33 [] := KK22.wr W33 (Or.inr sz_b23)
  have N33 := Fr.snoc X33 N22 g_b23
  have u34 : S_4 Z h1 (.ref a_TERMINATED) := Sta.ext E1 f9
  have u35 : S_4 Z h6 (.ref a_TERMINATED) := Sta.wr W6 u34
  have u36 : S_4 Z h13 (.ref a_TERMINATED) := Sta.wr W13 u35
  have u37 : S_4 Z h22 (.ref a_TERMINATED) := Sta.wr W22 u36
  have u38 : S_4 Z h33 (.ref a_TERMINATED) := Sta.wr W33 u37
  obtain ⟨T39, X39, e39, st39⟩ := getS2 X33 hx hZ hown (host := "") (Or.inl (tw_12 hw)) Via.refl e33 u38 (g := (mkF m 30 #[.val (.int p0), .val (.int p1), .val (.int p2), .unset, .unset, .unset, .unset, .unset, .unset, .unset] [(.int 4), (.ref b23), (.ref b23)])) rfl (hb hby at_30)
  have va40 := Vw33
  obtain ⟨cl40, Ar40, q40, S40, N40_, H40, G40⟩ := va40
  have hin40 : ¬ ((4 : Int32) < 0 ∨ cl40.slots.size ≤ ((4 : Int32)).toNatClampNeg) := inb_of S40 ⟨by decide, by decide⟩
  have u41 : E_0 Z h1 a_TERMINATED := Exa.ext E1 f10
  have u42 : E_0 Z h6 a_TERMINATED := Exa.wr W6 u41
  have u43 : E_0 Z h13 a_TERMINATED := Exa.wr W13 u42
  have u44 : E_0 Z h22 a_TERMINATED := Exa.wr W22 u43
  have u45 : E_0 Z h33 a_TERMINATED := Exa.wr W33 u44
  obtain ⟨T46, h46, X46, e46, W46, st46⟩ := stR X39 hx hZ e39 Ar40 (j := (4 : Int32)) hin40 rfl (Sto.ofV Ar40 q40 O1 (Ins.self u45)) (g := (mkF m 33 #[.val (.int p0), .val (.int p1), .val (.int p2), .unset, .unset, .unset, .unset, .unset, .unset, .unset] [(.ref a_TERMINATED), (.int 4), (.ref b23), (.ref b23)])) rfl rfl (hb hby at_33)
  have Vw46 : Arv Z h46 b23 kc24 (.object "com/example/offer/offer/model/TransferState") (5 : Int32) [(.ref a_REQUESTED), (.ref a_STARTED), (.ref a_SUSPENDED), (.ref a_COMPLETED), (.ref a_TERMINATED)] .null := Arv.set Ar40 q40 S40 N40_ H40 G40 rfl W46 4 rfl (Nat.le_of_ble_eq_true rfl)
  have KK46 : Keep h0 h46 [] := KK33.wr W46 (Or.inr sz_b23)
  have N46 := Fr.snoc X46 N33 g_b23
  refine ⟨T46, _, _, b23, kc24, X46, e46, N46, KK46, sz_b23, Vw46, O1, fun target kt => ?_⟩
  show Steps p.tables e below (T0.setTop (mkF m 0 #[.val (.int p0), .val (.int p1), .val (.int p2), .unset, .unset, .unset, .unset, .unset, .unset, .unset] [])) _
  refine XS.iconst X0.here hx rfl (hb hby at_0) ?_
  show Steps p.tables e below (T0.setTop (mkF m 1 #[.val (.int p0), .val (.int p1), .val (.int p2), .unset, .unset, .unset, .unset, .unset, .unset, .unset] [(.int 5)])) _
  refine st1 _ ?_
  refine XS.dup X1.here hx rfl (hb hby at_4) rfl rfl ?_
  refine XS.iconst X1.here hx rfl (hb hby at_5) ?_
  show Steps p.tables e below (T1.setTop (mkF m 6 #[.val (.int p0), .val (.int p1), .val (.int p2), .unset, .unset, .unset, .unset, .unset, .unset, .unset] [(.int 0), (.ref b23), (.ref b23)])) _
  refine st3 _ ?_
  show Steps p.tables e below (T3.setTop (mkF m 9 #[.val (.int p0), .val (.int p1), .val (.int p2), .unset, .unset, .unset, .unset, .unset, .unset, .unset] [(.ref a_REQUESTED), (.int 0), (.ref b23), (.ref b23)])) _
  refine st6 _ ?_
  refine XS.dup X6.here hx rfl (hb hby at_10) rfl rfl ?_
  refine XS.iconst X6.here hx rfl (hb hby at_11) ?_
  show Steps p.tables e below (T6.setTop (mkF m 12 #[.val (.int p0), .val (.int p1), .val (.int p2), .unset, .unset, .unset, .unset, .unset, .unset, .unset] [(.int 1), (.ref b23), (.ref b23)])) _
  refine st9 _ ?_
  show Steps p.tables e below (T9.setTop (mkF m 15 #[.val (.int p0), .val (.int p1), .val (.int p2), .unset, .unset, .unset, .unset, .unset, .unset, .unset] [(.ref a_STARTED), (.int 1), (.ref b23), (.ref b23)])) _
  refine st13 _ ?_
  refine XS.dup X13.here hx rfl (hb hby at_16) rfl rfl ?_
  refine XS.iconst X13.here hx rfl (hb hby at_17) ?_
  show Steps p.tables e below (T13.setTop (mkF m 18 #[.val (.int p0), .val (.int p1), .val (.int p2), .unset, .unset, .unset, .unset, .unset, .unset, .unset] [(.int 2), (.ref b23), (.ref b23)])) _
  refine st17 _ ?_
  show Steps p.tables e below (T17.setTop (mkF m 21 #[.val (.int p0), .val (.int p1), .val (.int p2), .unset, .unset, .unset, .unset, .unset, .unset, .unset] [(.ref a_SUSPENDED), (.int 2), (.ref b23), (.ref b23)])) _
  refine st22 _ ?_
  refine XS.dup X22.here hx rfl (hb hby at_22) rfl rfl ?_
  refine XS.iconst X22.here hx rfl (hb hby at_23) ?_
  show Steps p.tables e below (T22.setTop (mkF m 24 #[.val (.int p0), .val (.int p1), .val (.int p2), .unset, .unset, .unset, .unset, .unset, .unset, .unset] [(.int 3), (.ref b23), (.ref b23)])) _
  refine st27 _ ?_
  show Steps p.tables e below (T27.setTop (mkF m 27 #[.val (.int p0), .val (.int p1), .val (.int p2), .unset, .unset, .unset, .unset, .unset, .unset, .unset] [(.ref a_COMPLETED), (.int 3), (.ref b23), (.ref b23)])) _
  refine st33 _ ?_
  refine XS.dup X33.here hx rfl (hb hby at_28) rfl rfl ?_
  refine XS.iconst X33.here hx rfl (hb hby at_29) ?_
  show Steps p.tables e below (T33.setTop (mkF m 30 #[.val (.int p0), .val (.int p1), .val (.int p2), .unset, .unset, .unset, .unset, .unset, .unset, .unset] [(.int 4), (.ref b23), (.ref b23)])) _
  refine st39 _ ?_
  show Steps p.tables e below (T39.setTop (mkF m 33 #[.val (.int p0), .val (.int p1), .val (.int p2), .unset, .unset, .unset, .unset, .unset, .unset, .unset] [(.ref a_TERMINATED), (.int 4), (.ref b23), (.ref b23)])) _
  refine st46 _ ?_
  refine XS.astoreN X46.here hx rfl (hb hby at_34) rfl rfl (l' := #[.val (.int p0), .val (.int p1), .val (.int p2), .val (.ref b23), .unset, .unset, .unset, .unset, .unset, .unset]) rfl ?_
  show Steps p.tables e below (T46.setTop (mkF m 35 #[.val (.int p0), .val (.int p1), .val (.int p2), .val (.ref b23), .unset, .unset, .unset, .unset, .unset, .unset] [])) _
  exact kt
theorem tw_14 {a0 : Array Value} {Z : State} (hw : ∀ d ∈ tables_1, d.before a0 Z = true) : (Jvm.Cond.constant "com/example/offer/offer/model/TransferStateIsFinalPinLaw" (25 : Nat) (2147483647 : Int32)).before a0 Z = true := hw _ (List.mem_of_getElem? (i := 14) rfl)
theorem tw_15 {a0 : Array Value} {Z : State} (hw : ∀ d ∈ tables_1, d.before a0 Z = true) : (Jvm.Cond.fieldLink "com/example/offer/offer/model/TransferStateIsFinalPinLaw" (32 : Nat) "com/example/offer/offer/model/Role" "CONSUMER" "Lcom/example/offer/offer/model/Role;").before a0 Z = true := hw _ (List.mem_of_getElem? (i := 15) rfl)
theorem tw_18 {a0 : Array Value} {Z : State} (hw : ∀ d ∈ tables_1, d.before a0 Z = true) : (Jvm.Cond.methodLink "com/example/offer/offer/model/TransferStateIsFinalPinLaw" (35 : Nat) ({ cls := "com/example/offer/offer/model/TransferState", name := "isFinal", desc := "()Z" } : Jvm.MethodName)).before a0 Z = true := hw _ (List.mem_of_getElem? (i := 18) rfl)
theorem tw_22 {a0 : Array Value} {Z : State} (hw : ∀ d ∈ tables_1, d.before a0 Z = true) : (Jvm.Cond.code ({ cls := "com/example/offer/offer/model/TransferState", name := "isFinal", desc := "()Z" } : Jvm.MethodName) prog_6_method_4_code (1 : Nat) (Option.some Jvm.ClassFile.FieldType.boolean)).before a0 Z = true := hw _ (List.mem_of_getElem? (i := 22) rfl)
theorem d1_0 : decode prog_6_method_4_code 0 = .ok (.aload_n 0, 1) := by decide +kernel
theorem d1_1 : decode prog_6_method_4_code 1 = .ok (.getstatic 13, 3) := by decide +kernel
theorem tw_23 {a0 : Array Value} {Z : State} (hw : ∀ d ∈ tables_1, d.before a0 Z = true) : (Jvm.Cond.fieldLink "com/example/offer/offer/model/TransferState" (13 : Nat) "com/example/offer/offer/model/TransferState" "COMPLETED" "Lcom/example/offer/offer/model/TransferState;").before a0 Z = true := hw _ (List.mem_of_getElem? (i := 23) rfl)
theorem d1_4 : decode prog_6_method_4_code 4 = .ok (.if_acmp .eq 10, 3) := by decide +kernel
theorem d1_7 : decode prog_6_method_4_code 7 = .ok (.aload_n 0, 1) := by decide +kernel
theorem d1_8 : decode prog_6_method_4_code 8 = .ok (.getstatic 16, 3) := by decide +kernel
theorem tw_24 {a0 : Array Value} {Z : State} (hw : ∀ d ∈ tables_1, d.before a0 Z = true) : (Jvm.Cond.fieldLink "com/example/offer/offer/model/TransferState" (16 : Nat) "com/example/offer/offer/model/TransferState" "TERMINATED" "Lcom/example/offer/offer/model/TransferState;").before a0 Z = true := hw _ (List.mem_of_getElem? (i := 24) rfl)
theorem d1_11 : decode prog_6_method_4_code 11 = .ok (.if_acmp .ne 7, 3) := by decide +kernel
theorem d1_18 : decode prog_6_method_4_code 18 = .ok (.iconst 0, 1) := by decide +kernel
theorem d1_19 : decode prog_6_method_4_code 19 = .ok (.ireturn, 1) := by decide +kernel
abbrev R_0_0_0_0 : Room := { frames := 0, cells := 0, slots := 0, locals := 0 }
abbrev M_0 : MethodName := ⟨"com/example/offer/offer/model/TransferState", "isFinal", "()Z"⟩
theorem ef1_R (m : MethodId) (x0 : Addr) : entryFrame m #[(.ref x0)] 1 = mkF m 0 #[.val (.ref x0)] [] := by first | (simp [entryFrame, mkF, argsToLocals, Value.category]; done) | rfl
theorem pn_com_example_offer_offer_model_TransferState : plainName "com/example/offer/offer/model/TransferState" = true := by first | (simp [plainName, overriddenIn]; done) | decide +kernel
set_option maxRecDepth 65536 in
set_option maxHeartbeats 40000000 in
theorem rm1_28 (l : Launch) (Z : State) (a0 : Array Value) (hw : ∀ d ∈ tables_1, d.before a0 Z = true) (ws : List Jvm.Cond) (a_REQUESTED : Addr) (a_COMPLETED : Addr) (a_TERMINATED : Addr) (h0 : Heap) (n0 : Nat) (Z0 : n0 ≤ h0.size) (f1 : S_3 Z h0 (.ref a_COMPLETED)) (f2 : a_REQUESTED ≠ a_COMPLETED) (f3 : S_4 Z h0 (.ref a_TERMINATED)) (f4 : a_REQUESTED ≠ a_TERMINATED) :
    MetFree l M_0 (head1 (Jvm.Cond.code M_0 prog_6_method_4_code 1 (some .boolean) :: ws) R_0_0_0_0) (fun a U => a = #[(.ref a_REQUESTED)] ∧ Z.Warmed39 U.vm ∧ U.heap = h0) (fun _ _ _ _ _ => True) (fun _ U o U' => ∃ v L, o = .returned v ∧ QP (some (.int 0)) h0 n0 v U'.heap L ∧ FrameEnd U o U' L R_0_0_0_0.cells R_0_0_0_0.slots) := by
  refine MetFree.of_bodySF (plainFor_of_name pn_com_example_offer_offer_model_TransferState) hisR ?_
  intro p e s m args below meth c s₁ Bd hml0 hP hK
  obtain ⟨rfl, hZ, hh⟩ := hP
  have hx := Bd.exec
  have hby := Bd.bytes
  have hml : c.maxLocals = 1 := hml0
  have hown : s.vm.findClass "com/example/offer/offer/model/TransferState" = some m.cls := findClass_of_methodNamed Bd.named
  have hnm := (name_of_methodNamed Bd.named Bd.method).1
  have X0 : Stand p l e R_0_0_0_0 s m #[(.ref a_REQUESTED)] below meth c s₁ [] 0 0 := Stand.of_body Bd
  have e0 : s₁.heap = h0 := by rw [← hh, Bd.state]; rfl
  have N0 := Fr.nil n0
  obtain ⟨T1, X1, e1, st1⟩ := getS2 X0 hx hZ hown (host := "") (Or.inl (tw_23 hw)) Via.refl e0 f1 (g := (mkF m 1 #[.val (.ref a_REQUESTED)] [(.ref a_REQUESTED)])) rfl (hb hby d1_1)
  obtain ⟨T2, X2, e2, st2⟩ := getS2 X1 hx hZ hown (host := "") (Or.inl (tw_24 hw)) Via.refl e1 f3 (g := (mkF m 8 #[.val (.ref a_REQUESTED)] [(.ref a_REQUESTED)])) rfl (hb hby d1_8)
  obtain ⟨fs, hr, hrun, hended, hW, hsame⟩ := X2.leave (v := (some (.int 0))) (fun h => by rw [Bd.returns] at h; cases h)
  refine ⟨_, _, castTop (ef1_R m a_REQUESTED) ?_, hrun, hended, _, _, rfl, ?_, ⟨_, rfl⟩, hW, hsame.mono (by decide) (by decide)⟩
  · show Steps p.tables e below (s₁.setTop (mkF m 0 #[.val (.ref a_REQUESTED)] [])) _
    refine XS.aloadN X0.here hx rfl (hb hby d1_0) rfl rfl ?_
    show Steps p.tables e below (s₁.setTop (mkF m 1 #[.val (.ref a_REQUESTED)] [(.ref a_REQUESTED)])) _
    refine st1 _ ?_
    show Steps p.tables e below (T1.setTop (mkF m 4 #[.val (.ref a_REQUESTED)] [(.ref a_COMPLETED), (.ref a_REQUESTED)])) _
    refine Jvm.RoadKit.acmp (g := (mkF m 4 #[.val (.ref a_REQUESTED)] [(.ref a_COMPLETED), (.ref a_REQUESTED)])) X1 hx rfl rfl rfl (pc0 := 4) (pc' := 7) (same := false) rfl (hb hby d1_4) rfl (decide_eq_false fun q => f2 (Value.ref.inj q)) (by decide) (by decide) ?_
    refine XS.aloadN X1.here hx rfl (hb hby d1_7) rfl rfl ?_
    show Steps p.tables e below (T1.setTop (mkF m 8 #[.val (.ref a_REQUESTED)] [(.ref a_REQUESTED)])) _
    refine st2 _ ?_
    show Steps p.tables e below (T2.setTop (mkF m 11 #[.val (.ref a_REQUESTED)] [(.ref a_TERMINATED), (.ref a_REQUESTED)])) _
    refine Jvm.RoadKit.acmp (g := (mkF m 11 #[.val (.ref a_REQUESTED)] [(.ref a_TERMINATED), (.ref a_REQUESTED)])) X2 hx rfl rfl rfl (pc0 := 11) (pc' := 18) (same := false) rfl (hb hby d1_11) rfl (decide_eq_false fun q => f4 (Value.ref.inj q)) (by decide) (by decide) ?_
    refine XS.iconst X2.here hx rfl (hb hby d1_18) ?_
    show Steps p.tables e below (T2.setTop (mkF m 19 #[.val (.ref a_REQUESTED)] [(.int 0)])) _
    exact retN X2 hx (t := .boolean) Bd.returns (by simp) (hb hby d1_19) hr
  · show QP (some (.int 0)) h0 n0 _ T2.heap _
    rw [e2]
    exact ⟨rfl, N0, rfl⟩
theorem pd_0 : parseMethodDescriptor "()Z" = some ⟨[], some .boolean⟩ := by decide +kernel
theorem tw_21 {a0 : Array Value} {Z : State} (hw : ∀ d ∈ tables_1, d.before a0 Z = true) : (Jvm.Cond.selects "com/example/offer/offer/model/TransferState" ({ cls := "com/example/offer/offer/model/TransferState", name := "isFinal", desc := "()Z" } : Jvm.MethodName) ({ cls := "com/example/offer/offer/model/TransferState", name := "isFinal", desc := "()Z" } : Jvm.MethodName)).before a0 Z = true := hw _ (List.mem_of_getElem? (i := 21) rfl)
theorem tw_19 {a0 : Array Value} {Z : State} (hw : ∀ d ∈ tables_1, d.before a0 Z = true) : (Jvm.Cond.declares ({ cls := "com/example/offer/offer/model/TransferState", name := "isFinal", desc := "()Z" } : Jvm.MethodName)).before a0 Z = true := hw _ (List.mem_of_getElem? (i := 19) rfl)
theorem tw_20 {a0 : Array Value} {Z : State} (hw : ∀ d ∈ tables_1, d.before a0 Z = true) : (Jvm.Cond.instanceMethod ({ cls := "com/example/offer/offer/model/TransferState", name := "isFinal", desc := "()Z" } : Jvm.MethodName)).before a0 Z = true := hw _ (List.mem_of_getElem? (i := 20) rfl)
theorem ef0_III (m : MethodId) (x0 : Int32) (x1 : Int32) (x2 : Int32) : entryFrame m #[(.int x0), (.int x1), (.int x2)] maxLocals = mkF m 0 #[.val (.int x0), .val (.int x1), .val (.int x2), .unset, .unset, .unset, .unset, .unset, .unset, .unset] [] := by first | (simp [entryFrame, mkF, argsToLocals, Value.category, maxLocals]; done) | rfl
theorem pn_com_example_offer_offer_model_TransferStateIsFinalPinLaw : plainName "com/example/offer/offer/model/TransferStateIsFinalPinLaw" = true := by first | (simp [plainName, overriddenIn]; done) | decide +kernel
set_option maxRecDepth 65536 in
set_option maxHeartbeats 40000000 in
theorem rm0_29 (l : Launch) (Z : State) (a0 : Array Value) (hw : ∀ d ∈ tables_1, d.before a0 Z = true) (ws : List Jvm.Cond) (p0 : Int32) (p1 : Int32) (p2 : Int32) (a_REQUESTED : Addr) (a_STARTED : Addr) (a_SUSPENDED : Addr) (a_COMPLETED : Addr) (a_TERMINATED : Addr) (a_CONSUMER : Addr) (h0 : Heap) (n0 : Nat) (Z0 : n0 ≤ h0.size) (f1 : S_0 Z h0 (.ref a_REQUESTED)) (f2 : E_0 Z h0 a_REQUESTED) (f3 : S_1 Z h0 (.ref a_STARTED)) (f4 : E_0 Z h0 a_STARTED) (f5 : S_2 Z h0 (.ref a_SUSPENDED)) (f6 : E_0 Z h0 a_SUSPENDED) (f7 : S_3 Z h0 (.ref a_COMPLETED)) (f8 : E_0 Z h0 a_COMPLETED) (f9 : S_4 Z h0 (.ref a_TERMINATED)) (f10 : E_0 Z h0 a_TERMINATED) (f11 : ((p0 &&& (2147483647 : Int32)) % (5 : Int32)) = (0 : Int32)) (f12 : (p2 &&& (1 : Int32)) = (0 : Int32)) (f13 : S_5 Z h0 (.ref a_CONSUMER)) (f14 : a_REQUESTED ≠ a_COMPLETED) (f15 : a_REQUESTED ≠ a_TERMINATED) :
    MetFree l x (head1 (Jvm.Cond.code x code maxLocals ret :: ws) room_1) (fun a U => a = #[(.int p0), (.int p1), (.int p2)] ∧ Z.Warmed39 U.vm ∧ U.heap = h0) (fun _ _ _ _ _ => True) (fun _ U o U' => ∃ v L, o = .returned v ∧ QT n0 v U'.heap L ∧ ReturnedEndW U o U' L room_1.cells room_1.slots) := by
  refine MetFree.of_bodySF (plainFor_of_name pn_com_example_offer_offer_model_TransferStateIsFinalPinLaw) hisR ?_
  intro p e s m args below meth c s₁ Bd hml0 hP hK
  obtain ⟨rfl, hZ, hh⟩ := hP
  have hx := Bd.exec
  have hby := Bd.bytes
  have hml : c.maxLocals = 10 := hml0
  have hown : s.vm.findClass "com/example/offer/offer/model/TransferStateIsFinalPinLaw" = some m.cls := findClass_of_methodNamed Bd.named
  have hnm := (name_of_methodNamed Bd.named Bd.method).1
  have X0 : Stand p l e room_1 s m #[(.int p0), (.int p1), (.int p2)] below meth c s₁ [] 0 0 := Stand.of_body Bd
  have e0 : s₁.heap = h0 := by rw [← hh, Bd.state]; rfl
  have N0 := Fr.nil n0
  obtain ⟨T1, h1, L1, b26, kc27, X1, e1, N1, K1, le_b26, o1_0, o1_1, st1⟩ := sg0_25 p0 p1 p2 a_REQUESTED a_STARTED a_SUSPENDED a_COMPLETED a_TERMINATED X0 hx hZ hw hby hml hown e0 N0 Z0 f1 f2 f3 f4 f5 f6 f7 f8 f9 f10
  have sz_b26 : h0.size ≤ b26 := Nat.le_trans (Nat.le_refl _) le_b26
  have g_b26 : n0 ≤ b26 := Nat.le_trans Z0 sz_b26
  have KK1 : Keep h0 h1 [] := (Keep.refl h0 []).trans K1 (fun x hx => nomatch hx)
  have u2 : S_5 Z h1 (.ref a_CONSUMER) := own_sta_keep f13 K1 (fun _ q => nomatch q)
  obtain ⟨T3, X3, e3, st3⟩ := getS2 X1 hx hZ hown (host := "") (Or.inl (tw_15 hw)) Via.refl e1 u2 (g := (mkF m 63 #[.val (.int p0), .val (.int p1), .val (.int p2), .val (.ref b26), .val (.int 0), .val (.int ((p1 &&& (2147483647 : Int32)) % (5 : Int32))), .unset, .unset, .unset, .unset] [])) rfl (hb hby at_63)
  have va4 := o1_0
  obtain ⟨cl4, Ar4, -, S4, -, H4, -⟩ := va4
  have hin4 : ¬ ((0 : Int32) < 0 ∨ cl4.slots.size ≤ ((0 : Int32)).toNatClampNeg) := inb_of S4 ⟨by decide, by decide⟩
  have hat4 : cl4.slots[((0 : Int32)).toNatClampNeg]? = some (.ref a_REQUESTED) := H4 _ (Nat.lt_of_not_le fun y => hin4 (Or.inr y))
  -- pc 76: com/example/offer/offer/model/TransferState.isFinal
  have u5 : S_3 Z h1 (.ref a_COMPLETED) := own_sta_keep f7 K1 (fun _ q => nomatch q)
  have u6 : S_4 Z h1 (.ref a_TERMINATED) := own_sta_keep f9 K1 (fun _ q => nomatch q)
  have u8 : E_0 Z h1 a_REQUESTED := Exa.keep f2 K1
  obtain ⟨cq7, kq7, q7a, q7b, q7c⟩ := isOf hZ e3 u8
  obtain ⟨_, _, ⟨T7, L7, k7, n7⟩, -, X7, ⟨Lc7, hQ7, l7, y7, z7⟩, st7⟩ := X3.virtualBack hx (y := M_0) (z := M_0) hown (mvT hZ (tw_18 hw)) (mvT hZ (tw_19 hw)) (notFace_of_selects (args := #[]) (mvT hZ (tw_21 hw))) (mvT hZ (tw_21 hw)) (mvT hZ (tw_20 hw)) (by decide) (backOf (W := 0) (rm1_28 l Z a0 hw [] a_REQUESTED a_COMPLETED a_TERMINATED h1 n0 (Nat.le_trans Z0 KK1.1) u5 f14 u6 f15) hZ (tw_22 hw) (tw_3 hw) (by decide) (by decide)) q7a q7c (g := (mkF m 76 #[.val (.int p0), .val (.int p1), .val (.int p2), .val (.ref b26), .val (.int 0), .val (.int ((p1 &&& (2147483647 : Int32)) % (5 : Int32))), .val (.ref a_CONSUMER), .val (.ref a_REQUESTED), .unset, .unset] [(.ref a_REQUESTED)])) rfl (by rw [hml]; rfl) (Steps.refl _) (argsL := []) (rest := []) (lenOf pd_0 rfl) rfl (by show 2 * 0 + _ ≤ _; exact Nat.le_of_eq rfl) (hb hby at_76) (fun _ _ => ⟨rfl, e3, (by decide : 1 + 0 ≤ _), (by decide : 5 + 0 ≤ _)⟩)
  dsimp only [Pt.U, Pt.locs, Pt.cells, Pt.slots] at X7 l7 y7 z7 st7 hQ7
  subst l7 y7 z7
  obtain ⟨rfl, Nq7, e7⟩ := hQ7
  have N7 := Fr.app N1 Nq7
  obtain ⟨fs, hr, hrun, hended, hW, hsame⟩ := X7.leave (v := (some (.int 1))) (fun h => by rw [Bd.returns] at h; cases h)
  refine ⟨_, _, castTop (ef0_III m p0 p1 p2) ?_, hrun, hended, _, _, rfl, ?_, ReturnedEndW.of_narrow ⟨_, rfl⟩ hW (hsame.mono (by decide) (by decide))⟩
  · show Steps p.tables e below (s₁.setTop (mkF m 0 #[.val (.int p0), .val (.int p1), .val (.int p2), .unset, .unset, .unset, .unset, .unset, .unset, .unset] [])) _
    refine st1 _ ?_
    refine XS.iloadN X1.here hx rfl (hb hby at_35) rfl ?_
    show Steps p.tables e below (T1.setTop (mkF m 36 #[.val (.int p0), .val (.int p1), .val (.int p2), .val (.ref b26), .unset, .unset, .unset, .unset, .unset, .unset] [(.int p0)])) _
    refine X1.ldcInt hx hown (mvT hZ (tw_14 hw)) (g := (mkF m 36 #[.val (.int p0), .val (.int p1), .val (.int p2), .val (.ref b26), .unset, .unset, .unset, .unset, .unset, .unset] [(.int p0)])) rfl (hb hby at_36) _ ?_
    show Steps p.tables e below (T1.setTop (mkF m 38 #[.val (.int p0), .val (.int p1), .val (.int p2), .val (.ref b26), .unset, .unset, .unset, .unset, .unset, .unset] [(.int 2147483647), (.int p0)])) _
    refine XS.iand X1.here hx rfl (hb hby at_38) rfl ?_
    refine XS.iconst X1.here hx rfl (hb hby at_39) ?_
    show Steps p.tables e below (T1.setTop (mkF m 40 #[.val (.int p0), .val (.int p1), .val (.int p2), .val (.ref b26), .unset, .unset, .unset, .unset, .unset, .unset] [(.int 5), (.int (p0 &&& (2147483647 : Int32)))])) _
    refine iremM X1 hx rfl (hb hby at_40) rfl (by decide) ?_
    show Steps p.tables e below (T1.setTop (mkF m 41 #[.val (.int p0), .val (.int p1), .val (.int p2), .val (.ref b26), .unset, .unset, .unset, .unset, .unset, .unset] [(.int ((p0 &&& (2147483647 : Int32)) % (5 : Int32)))])) _
    rw [f11]
    refine XS.istore X1.here hx rfl (hb hby at_41) rfl (l' := #[.val (.int p0), .val (.int p1), .val (.int p2), .val (.ref b26), .val (.int 0), .unset, .unset, .unset, .unset, .unset]) rfl ?_
    refine XS.iloadN X1.here hx rfl (hb hby at_43) rfl ?_
    show Steps p.tables e below (T1.setTop (mkF m 44 #[.val (.int p0), .val (.int p1), .val (.int p2), .val (.ref b26), .val (.int 0), .unset, .unset, .unset, .unset, .unset] [(.int p1)])) _
    refine X1.ldcInt hx hown (mvT hZ (tw_14 hw)) (g := (mkF m 44 #[.val (.int p0), .val (.int p1), .val (.int p2), .val (.ref b26), .val (.int 0), .unset, .unset, .unset, .unset, .unset] [(.int p1)])) rfl (hb hby at_44) _ ?_
    show Steps p.tables e below (T1.setTop (mkF m 46 #[.val (.int p0), .val (.int p1), .val (.int p2), .val (.ref b26), .val (.int 0), .unset, .unset, .unset, .unset, .unset] [(.int 2147483647), (.int p1)])) _
    refine XS.iand X1.here hx rfl (hb hby at_46) rfl ?_
    refine XS.iconst X1.here hx rfl (hb hby at_47) ?_
    show Steps p.tables e below (T1.setTop (mkF m 48 #[.val (.int p0), .val (.int p1), .val (.int p2), .val (.ref b26), .val (.int 0), .unset, .unset, .unset, .unset, .unset] [(.int 5), (.int (p1 &&& (2147483647 : Int32)))])) _
    refine iremM X1 hx rfl (hb hby at_48) rfl (by decide) ?_
    refine XS.istore X1.here hx rfl (hb hby at_49) rfl (l' := #[.val (.int p0), .val (.int p1), .val (.int p2), .val (.ref b26), .val (.int 0), .val (.int ((p1 &&& (2147483647 : Int32)) % (5 : Int32))), .unset, .unset, .unset, .unset]) rfl ?_
    refine XS.iloadN X1.here hx rfl (hb hby at_51) rfl ?_
    refine XS.iconst X1.here hx rfl (hb hby at_52) ?_
    show Steps p.tables e below (T1.setTop (mkF m 53 #[.val (.int p0), .val (.int p1), .val (.int p2), .val (.ref b26), .val (.int 0), .val (.int ((p1 &&& (2147483647 : Int32)) % (5 : Int32))), .unset, .unset, .unset, .unset] [(.int 1), (.int p2)])) _
    refine XS.iand X1.here hx rfl (hb hby at_53) rfl ?_
    refine XS.ifYes X1.here hx rfl (pc0 := 54) (pc' := 63) rfl (hb hby at_54) rfl ((if0 _ _).trans (teq (f12 : (p2 &&& (1 : Int32)) = (0 : Int32))).1) (by decide) (by decide) ?_
    show Steps p.tables e below (T1.setTop (mkF m 63 #[.val (.int p0), .val (.int p1), .val (.int p2), .val (.ref b26), .val (.int 0), .val (.int ((p1 &&& (2147483647 : Int32)) % (5 : Int32))), .unset, .unset, .unset, .unset] [])) _
    refine st3 _ ?_
    refine XS.astore X3.here hx rfl (hb hby at_66) rfl rfl (l' := #[.val (.int p0), .val (.int p1), .val (.int p2), .val (.ref b26), .val (.int 0), .val (.int ((p1 &&& (2147483647 : Int32)) % (5 : Int32))), .val (.ref a_CONSUMER), .unset, .unset, .unset]) rfl ?_
    refine XS.aloadN X3.here hx rfl (hb hby at_68) rfl rfl ?_
    refine XS.iload X3.here hx rfl (hb hby at_69) rfl ?_
    show Steps p.tables e below (T3.setTop (mkF m 71 #[.val (.int p0), .val (.int p1), .val (.int p2), .val (.ref b26), .val (.int 0), .val (.int ((p1 &&& (2147483647 : Int32)) % (5 : Int32))), .val (.ref a_CONSUMER), .unset, .unset, .unset] [(.int 0), (.ref b26)])) _
    refine X3.aaload hx (j := (0 : Int32)) (v := (.ref a_REQUESTED)) (by rw [e3]; exact Ar4.1) (State.isArrayOf_alike hZ.alike Ar4.2.1) rfl Ar4.2.2 hin4 hat4 (g := (mkF m 71 #[.val (.int p0), .val (.int p1), .val (.int p2), .val (.ref b26), .val (.int 0), .val (.int ((p1 &&& (2147483647 : Int32)) % (5 : Int32))), .val (.ref a_CONSUMER), .unset, .unset, .unset] [(.int 0), (.ref b26)])) rfl rfl (hb hby at_71) _ ?_
    refine XS.astore X3.here hx rfl (hb hby at_72) rfl rfl (l' := #[.val (.int p0), .val (.int p1), .val (.int p2), .val (.ref b26), .val (.int 0), .val (.int ((p1 &&& (2147483647 : Int32)) % (5 : Int32))), .val (.ref a_CONSUMER), .val (.ref a_REQUESTED), .unset, .unset]) rfl ?_
    refine XS.aload X3.here hx rfl (hb hby at_74) rfl rfl ?_
    show Steps p.tables e below (T3.setTop (mkF m 76 #[.val (.int p0), .val (.int p1), .val (.int p2), .val (.ref b26), .val (.int 0), .val (.int ((p1 &&& (2147483647 : Int32)) % (5 : Int32))), .val (.ref a_CONSUMER), .val (.ref a_REQUESTED), .unset, .unset] [(.ref a_REQUESTED)])) _
    refine st7.trans ?_
    refine XS.istore X7.here hx rfl (hb hby at_79) rfl (l' := #[.val (.int p0), .val (.int p1), .val (.int p2), .val (.ref b26), .val (.int 0), .val (.int ((p1 &&& (2147483647 : Int32)) % (5 : Int32))), .val (.ref a_CONSUMER), .val (.ref a_REQUESTED), .val (.int 0), .unset]) rfl ?_
    refine XS.iload X7.here hx rfl (hb hby at_81) rfl ?_
    refine XS.iconst X7.here hx rfl (hb hby at_83) ?_
    refine XS.icmpYes X7.here hx rfl (pc0 := 84) (pc' := 91) rfl (hb hby at_84) rfl (by decide) (by decide) (by decide) ?_
    show Steps p.tables e below (T7.setTop (mkF m 91 #[.val (.int p0), .val (.int p1), .val (.int p2), .val (.ref b26), .val (.int 0), .val (.int ((p1 &&& (2147483647 : Int32)) % (5 : Int32))), .val (.ref a_CONSUMER), .val (.ref a_REQUESTED), .val (.int 0), .unset] [])) _
    refine XS.iconst X7.here hx rfl (hb hby at_91) ?_
    refine XS.istore X7.here hx rfl (hb hby at_92) rfl (l' := #[.val (.int p0), .val (.int p1), .val (.int p2), .val (.ref b26), .val (.int 0), .val (.int ((p1 &&& (2147483647 : Int32)) % (5 : Int32))), .val (.ref a_CONSUMER), .val (.ref a_REQUESTED), .val (.int 0), .val (.int 0)]) rfl ?_
    refine XS.iload X7.here hx rfl (hb hby at_94) rfl ?_
    refine XS.iload X7.here hx rfl (hb hby at_96) rfl ?_
    refine XS.icmpYes X7.here hx rfl (pc0 := 98) (pc' := 103) rfl (hb hby at_98) rfl (by decide) (by decide) (by decide) ?_
    show Steps p.tables e below (T7.setTop (mkF m 103 #[.val (.int p0), .val (.int p1), .val (.int p2), .val (.ref b26), .val (.int 0), .val (.int ((p1 &&& (2147483647 : Int32)) % (5 : Int32))), .val (.ref a_CONSUMER), .val (.ref a_REQUESTED), .val (.int 0), .val (.int 0)] [])) _
    refine XS.iload X7.here hx rfl (hb hby at_103) rfl ?_
    refine XS.ifYes X7.here hx rfl (pc0 := 105) (pc' := 124) rfl (hb hby at_105) rfl (by decide) (by decide) (by decide) ?_
    refine XS.iconst X7.here hx rfl (hb hby at_124) ?_
    show Steps p.tables e below (T7.setTop (mkF m 125 #[.val (.int p0), .val (.int p1), .val (.int p2), .val (.ref b26), .val (.int 0), .val (.int ((p1 &&& (2147483647 : Int32)) % (5 : Int32))), .val (.ref a_CONSUMER), .val (.ref a_REQUESTED), .val (.int 0), .val (.int 0)] [(.int 1)])) _
    exact retN X7 hx (t := .boolean) Bd.returns (by simp) (hb hby at_125) hr
  · show QT n0 _ T7.heap _
    rw [e7]
    exact ⟨rfl, N7⟩
theorem tw_25 {a0 : Array Value} {Z : State} (hw : ∀ d ∈ tables_1, d.before a0 Z = true) : (Jvm.Cond.fieldLink "com/example/offer/offer/model/TransferStateIsFinalPinLaw" (26 : Nat) "com/example/offer/offer/model/Role" "PROVIDER" "Lcom/example/offer/offer/model/Role;").before a0 Z = true := hw _ (List.mem_of_getElem? (i := 25) rfl)
set_option maxRecDepth 65536 in
set_option maxHeartbeats 40000000 in
theorem rm0_32 (l : Launch) (Z : State) (a0 : Array Value) (hw : ∀ d ∈ tables_1, d.before a0 Z = true) (ws : List Jvm.Cond) (p0 : Int32) (p1 : Int32) (p2 : Int32) (a_REQUESTED : Addr) (a_STARTED : Addr) (a_SUSPENDED : Addr) (a_COMPLETED : Addr) (a_TERMINATED : Addr) (a_PROVIDER : Addr) (h0 : Heap) (n0 : Nat) (Z0 : n0 ≤ h0.size) (f1 : S_0 Z h0 (.ref a_REQUESTED)) (f2 : E_0 Z h0 a_REQUESTED) (f3 : S_1 Z h0 (.ref a_STARTED)) (f4 : E_0 Z h0 a_STARTED) (f5 : S_2 Z h0 (.ref a_SUSPENDED)) (f6 : E_0 Z h0 a_SUSPENDED) (f7 : S_3 Z h0 (.ref a_COMPLETED)) (f8 : E_0 Z h0 a_COMPLETED) (f9 : S_4 Z h0 (.ref a_TERMINATED)) (f10 : E_0 Z h0 a_TERMINATED) (f11 : ((p0 &&& (2147483647 : Int32)) % (5 : Int32)) = (0 : Int32)) (f12 : ¬ ((p2 &&& (1 : Int32)) = (0 : Int32))) (f13 : S_6 Z h0 (.ref a_PROVIDER)) (f14 : a_REQUESTED ≠ a_COMPLETED) (f15 : a_REQUESTED ≠ a_TERMINATED) :
    MetFree l x (head1 (Jvm.Cond.code x code maxLocals ret :: ws) room_1) (fun a U => a = #[(.int p0), (.int p1), (.int p2)] ∧ Z.Warmed39 U.vm ∧ U.heap = h0) (fun _ _ _ _ _ => True) (fun _ U o U' => ∃ v L, o = .returned v ∧ QT n0 v U'.heap L ∧ ReturnedEndW U o U' L room_1.cells room_1.slots) := by
  refine MetFree.of_bodySF (plainFor_of_name pn_com_example_offer_offer_model_TransferStateIsFinalPinLaw) hisR ?_
  intro p e s m args below meth c s₁ Bd hml0 hP hK
  obtain ⟨rfl, hZ, hh⟩ := hP
  have hx := Bd.exec
  have hby := Bd.bytes
  have hml : c.maxLocals = 10 := hml0
  have hown : s.vm.findClass "com/example/offer/offer/model/TransferStateIsFinalPinLaw" = some m.cls := findClass_of_methodNamed Bd.named
  have hnm := (name_of_methodNamed Bd.named Bd.method).1
  have X0 : Stand p l e room_1 s m #[(.int p0), (.int p1), (.int p2)] below meth c s₁ [] 0 0 := Stand.of_body Bd
  have e0 : s₁.heap = h0 := by rw [← hh, Bd.state]; rfl
  have N0 := Fr.nil n0
  obtain ⟨T1, h1, L1, b30, kc31, X1, e1, N1, K1, le_b30, o1_0, o1_1, st1⟩ := sg0_25 p0 p1 p2 a_REQUESTED a_STARTED a_SUSPENDED a_COMPLETED a_TERMINATED X0 hx hZ hw hby hml hown e0 N0 Z0 f1 f2 f3 f4 f5 f6 f7 f8 f9 f10
  have sz_b30 : h0.size ≤ b30 := Nat.le_trans (Nat.le_refl _) le_b30
  have g_b30 : n0 ≤ b30 := Nat.le_trans Z0 sz_b30
  have KK1 : Keep h0 h1 [] := (Keep.refl h0 []).trans K1 (fun x hx => nomatch hx)
  have u2 : S_6 Z h1 (.ref a_PROVIDER) := own_sta_keep f13 K1 (fun _ q => nomatch q)
  obtain ⟨T3, X3, e3, st3⟩ := getS2 X1 hx hZ hown (host := "") (Or.inl (tw_25 hw)) Via.refl e1 u2 (g := (mkF m 57 #[.val (.int p0), .val (.int p1), .val (.int p2), .val (.ref b30), .val (.int 0), .val (.int ((p1 &&& (2147483647 : Int32)) % (5 : Int32))), .unset, .unset, .unset, .unset] [])) rfl (hb hby at_57)
  have va4 := o1_0
  obtain ⟨cl4, Ar4, -, S4, -, H4, -⟩ := va4
  have hin4 : ¬ ((0 : Int32) < 0 ∨ cl4.slots.size ≤ ((0 : Int32)).toNatClampNeg) := inb_of S4 ⟨by decide, by decide⟩
  have hat4 : cl4.slots[((0 : Int32)).toNatClampNeg]? = some (.ref a_REQUESTED) := H4 _ (Nat.lt_of_not_le fun y => hin4 (Or.inr y))
  -- pc 76: com/example/offer/offer/model/TransferState.isFinal
  have u5 : S_3 Z h1 (.ref a_COMPLETED) := own_sta_keep f7 K1 (fun _ q => nomatch q)
  have u6 : S_4 Z h1 (.ref a_TERMINATED) := own_sta_keep f9 K1 (fun _ q => nomatch q)
  have u8 : E_0 Z h1 a_REQUESTED := Exa.keep f2 K1
  obtain ⟨cq7, kq7, q7a, q7b, q7c⟩ := isOf hZ e3 u8
  obtain ⟨_, _, ⟨T7, L7, k7, n7⟩, -, X7, ⟨Lc7, hQ7, l7, y7, z7⟩, st7⟩ := X3.virtualBack hx (y := M_0) (z := M_0) hown (mvT hZ (tw_18 hw)) (mvT hZ (tw_19 hw)) (notFace_of_selects (args := #[]) (mvT hZ (tw_21 hw))) (mvT hZ (tw_21 hw)) (mvT hZ (tw_20 hw)) (by decide) (backOf (W := 0) (rm1_28 l Z a0 hw [] a_REQUESTED a_COMPLETED a_TERMINATED h1 n0 (Nat.le_trans Z0 KK1.1) u5 f14 u6 f15) hZ (tw_22 hw) (tw_3 hw) (by decide) (by decide)) q7a q7c (g := (mkF m 76 #[.val (.int p0), .val (.int p1), .val (.int p2), .val (.ref b30), .val (.int 0), .val (.int ((p1 &&& (2147483647 : Int32)) % (5 : Int32))), .val (.ref a_PROVIDER), .val (.ref a_REQUESTED), .unset, .unset] [(.ref a_REQUESTED)])) rfl (by rw [hml]; rfl) (Steps.refl _) (argsL := []) (rest := []) (lenOf pd_0 rfl) rfl (by show 2 * 0 + _ ≤ _; exact Nat.le_of_eq rfl) (hb hby at_76) (fun _ _ => ⟨rfl, e3, (by decide : 1 + 0 ≤ _), (by decide : 5 + 0 ≤ _)⟩)
  dsimp only [Pt.U, Pt.locs, Pt.cells, Pt.slots] at X7 l7 y7 z7 st7 hQ7
  subst l7 y7 z7
  obtain ⟨rfl, Nq7, e7⟩ := hQ7
  have N7 := Fr.app N1 Nq7
  obtain ⟨fs, hr, hrun, hended, hW, hsame⟩ := X7.leave (v := (some (.int 1))) (fun h => by rw [Bd.returns] at h; cases h)
  refine ⟨_, _, castTop (ef0_III m p0 p1 p2) ?_, hrun, hended, _, _, rfl, ?_, ReturnedEndW.of_narrow ⟨_, rfl⟩ hW (hsame.mono (by decide) (by decide))⟩
  · show Steps p.tables e below (s₁.setTop (mkF m 0 #[.val (.int p0), .val (.int p1), .val (.int p2), .unset, .unset, .unset, .unset, .unset, .unset, .unset] [])) _
    refine st1 _ ?_
    refine XS.iloadN X1.here hx rfl (hb hby at_35) rfl ?_
    show Steps p.tables e below (T1.setTop (mkF m 36 #[.val (.int p0), .val (.int p1), .val (.int p2), .val (.ref b30), .unset, .unset, .unset, .unset, .unset, .unset] [(.int p0)])) _
    refine X1.ldcInt hx hown (mvT hZ (tw_14 hw)) (g := (mkF m 36 #[.val (.int p0), .val (.int p1), .val (.int p2), .val (.ref b30), .unset, .unset, .unset, .unset, .unset, .unset] [(.int p0)])) rfl (hb hby at_36) _ ?_
    show Steps p.tables e below (T1.setTop (mkF m 38 #[.val (.int p0), .val (.int p1), .val (.int p2), .val (.ref b30), .unset, .unset, .unset, .unset, .unset, .unset] [(.int 2147483647), (.int p0)])) _
    refine XS.iand X1.here hx rfl (hb hby at_38) rfl ?_
    refine XS.iconst X1.here hx rfl (hb hby at_39) ?_
    show Steps p.tables e below (T1.setTop (mkF m 40 #[.val (.int p0), .val (.int p1), .val (.int p2), .val (.ref b30), .unset, .unset, .unset, .unset, .unset, .unset] [(.int 5), (.int (p0 &&& (2147483647 : Int32)))])) _
    refine iremM X1 hx rfl (hb hby at_40) rfl (by decide) ?_
    show Steps p.tables e below (T1.setTop (mkF m 41 #[.val (.int p0), .val (.int p1), .val (.int p2), .val (.ref b30), .unset, .unset, .unset, .unset, .unset, .unset] [(.int ((p0 &&& (2147483647 : Int32)) % (5 : Int32)))])) _
    rw [f11]
    refine XS.istore X1.here hx rfl (hb hby at_41) rfl (l' := #[.val (.int p0), .val (.int p1), .val (.int p2), .val (.ref b30), .val (.int 0), .unset, .unset, .unset, .unset, .unset]) rfl ?_
    refine XS.iloadN X1.here hx rfl (hb hby at_43) rfl ?_
    show Steps p.tables e below (T1.setTop (mkF m 44 #[.val (.int p0), .val (.int p1), .val (.int p2), .val (.ref b30), .val (.int 0), .unset, .unset, .unset, .unset, .unset] [(.int p1)])) _
    refine X1.ldcInt hx hown (mvT hZ (tw_14 hw)) (g := (mkF m 44 #[.val (.int p0), .val (.int p1), .val (.int p2), .val (.ref b30), .val (.int 0), .unset, .unset, .unset, .unset, .unset] [(.int p1)])) rfl (hb hby at_44) _ ?_
    show Steps p.tables e below (T1.setTop (mkF m 46 #[.val (.int p0), .val (.int p1), .val (.int p2), .val (.ref b30), .val (.int 0), .unset, .unset, .unset, .unset, .unset] [(.int 2147483647), (.int p1)])) _
    refine XS.iand X1.here hx rfl (hb hby at_46) rfl ?_
    refine XS.iconst X1.here hx rfl (hb hby at_47) ?_
    show Steps p.tables e below (T1.setTop (mkF m 48 #[.val (.int p0), .val (.int p1), .val (.int p2), .val (.ref b30), .val (.int 0), .unset, .unset, .unset, .unset, .unset] [(.int 5), (.int (p1 &&& (2147483647 : Int32)))])) _
    refine iremM X1 hx rfl (hb hby at_48) rfl (by decide) ?_
    refine XS.istore X1.here hx rfl (hb hby at_49) rfl (l' := #[.val (.int p0), .val (.int p1), .val (.int p2), .val (.ref b30), .val (.int 0), .val (.int ((p1 &&& (2147483647 : Int32)) % (5 : Int32))), .unset, .unset, .unset, .unset]) rfl ?_
    refine XS.iloadN X1.here hx rfl (hb hby at_51) rfl ?_
    refine XS.iconst X1.here hx rfl (hb hby at_52) ?_
    show Steps p.tables e below (T1.setTop (mkF m 53 #[.val (.int p0), .val (.int p1), .val (.int p2), .val (.ref b30), .val (.int 0), .val (.int ((p1 &&& (2147483647 : Int32)) % (5 : Int32))), .unset, .unset, .unset, .unset] [(.int 1), (.int p2)])) _
    refine XS.iand X1.here hx rfl (hb hby at_53) rfl ?_
    refine XS.ifNo X1.here hx rfl (hb hby at_54) rfl ((if0 _ _).trans (feq (f12 : ¬ ((p2 &&& (1 : Int32)) = (0 : Int32)))).1) ?_
    show Steps p.tables e below (T1.setTop (mkF m 57 #[.val (.int p0), .val (.int p1), .val (.int p2), .val (.ref b30), .val (.int 0), .val (.int ((p1 &&& (2147483647 : Int32)) % (5 : Int32))), .unset, .unset, .unset, .unset] [])) _
    refine st3 _ ?_
    refine XS.goto X3.here hx rfl (pc0 := 60) (pc' := 66) rfl (hb hby at_60) (by decide) (by decide) ?_
    refine XS.astore X3.here hx rfl (hb hby at_66) rfl rfl (l' := #[.val (.int p0), .val (.int p1), .val (.int p2), .val (.ref b30), .val (.int 0), .val (.int ((p1 &&& (2147483647 : Int32)) % (5 : Int32))), .val (.ref a_PROVIDER), .unset, .unset, .unset]) rfl ?_
    refine XS.aloadN X3.here hx rfl (hb hby at_68) rfl rfl ?_
    refine XS.iload X3.here hx rfl (hb hby at_69) rfl ?_
    show Steps p.tables e below (T3.setTop (mkF m 71 #[.val (.int p0), .val (.int p1), .val (.int p2), .val (.ref b30), .val (.int 0), .val (.int ((p1 &&& (2147483647 : Int32)) % (5 : Int32))), .val (.ref a_PROVIDER), .unset, .unset, .unset] [(.int 0), (.ref b30)])) _
    refine X3.aaload hx (j := (0 : Int32)) (v := (.ref a_REQUESTED)) (by rw [e3]; exact Ar4.1) (State.isArrayOf_alike hZ.alike Ar4.2.1) rfl Ar4.2.2 hin4 hat4 (g := (mkF m 71 #[.val (.int p0), .val (.int p1), .val (.int p2), .val (.ref b30), .val (.int 0), .val (.int ((p1 &&& (2147483647 : Int32)) % (5 : Int32))), .val (.ref a_PROVIDER), .unset, .unset, .unset] [(.int 0), (.ref b30)])) rfl rfl (hb hby at_71) _ ?_
    refine XS.astore X3.here hx rfl (hb hby at_72) rfl rfl (l' := #[.val (.int p0), .val (.int p1), .val (.int p2), .val (.ref b30), .val (.int 0), .val (.int ((p1 &&& (2147483647 : Int32)) % (5 : Int32))), .val (.ref a_PROVIDER), .val (.ref a_REQUESTED), .unset, .unset]) rfl ?_
    refine XS.aload X3.here hx rfl (hb hby at_74) rfl rfl ?_
    show Steps p.tables e below (T3.setTop (mkF m 76 #[.val (.int p0), .val (.int p1), .val (.int p2), .val (.ref b30), .val (.int 0), .val (.int ((p1 &&& (2147483647 : Int32)) % (5 : Int32))), .val (.ref a_PROVIDER), .val (.ref a_REQUESTED), .unset, .unset] [(.ref a_REQUESTED)])) _
    refine st7.trans ?_
    refine XS.istore X7.here hx rfl (hb hby at_79) rfl (l' := #[.val (.int p0), .val (.int p1), .val (.int p2), .val (.ref b30), .val (.int 0), .val (.int ((p1 &&& (2147483647 : Int32)) % (5 : Int32))), .val (.ref a_PROVIDER), .val (.ref a_REQUESTED), .val (.int 0), .unset]) rfl ?_
    refine XS.iload X7.here hx rfl (hb hby at_81) rfl ?_
    refine XS.iconst X7.here hx rfl (hb hby at_83) ?_
    refine XS.icmpYes X7.here hx rfl (pc0 := 84) (pc' := 91) rfl (hb hby at_84) rfl (by decide) (by decide) (by decide) ?_
    show Steps p.tables e below (T7.setTop (mkF m 91 #[.val (.int p0), .val (.int p1), .val (.int p2), .val (.ref b30), .val (.int 0), .val (.int ((p1 &&& (2147483647 : Int32)) % (5 : Int32))), .val (.ref a_PROVIDER), .val (.ref a_REQUESTED), .val (.int 0), .unset] [])) _
    refine XS.iconst X7.here hx rfl (hb hby at_91) ?_
    refine XS.istore X7.here hx rfl (hb hby at_92) rfl (l' := #[.val (.int p0), .val (.int p1), .val (.int p2), .val (.ref b30), .val (.int 0), .val (.int ((p1 &&& (2147483647 : Int32)) % (5 : Int32))), .val (.ref a_PROVIDER), .val (.ref a_REQUESTED), .val (.int 0), .val (.int 0)]) rfl ?_
    refine XS.iload X7.here hx rfl (hb hby at_94) rfl ?_
    refine XS.iload X7.here hx rfl (hb hby at_96) rfl ?_
    refine XS.icmpYes X7.here hx rfl (pc0 := 98) (pc' := 103) rfl (hb hby at_98) rfl (by decide) (by decide) (by decide) ?_
    show Steps p.tables e below (T7.setTop (mkF m 103 #[.val (.int p0), .val (.int p1), .val (.int p2), .val (.ref b30), .val (.int 0), .val (.int ((p1 &&& (2147483647 : Int32)) % (5 : Int32))), .val (.ref a_PROVIDER), .val (.ref a_REQUESTED), .val (.int 0), .val (.int 0)] [])) _
    refine XS.iload X7.here hx rfl (hb hby at_103) rfl ?_
    refine XS.ifYes X7.here hx rfl (pc0 := 105) (pc' := 124) rfl (hb hby at_105) rfl (by decide) (by decide) (by decide) ?_
    refine XS.iconst X7.here hx rfl (hb hby at_124) ?_
    show Steps p.tables e below (T7.setTop (mkF m 125 #[.val (.int p0), .val (.int p1), .val (.int p2), .val (.ref b30), .val (.int 0), .val (.int ((p1 &&& (2147483647 : Int32)) % (5 : Int32))), .val (.ref a_PROVIDER), .val (.ref a_REQUESTED), .val (.int 0), .val (.int 0)] [(.int 1)])) _
    exact retN X7 hx (t := .boolean) Bd.returns (by simp) (hb hby at_125) hr
  · show QT n0 _ T7.heap _
    rw [e7]
    exact ⟨rfl, N7⟩
set_option maxRecDepth 65536 in
set_option maxHeartbeats 40000000 in
theorem rm1_35 (l : Launch) (Z : State) (a0 : Array Value) (hw : ∀ d ∈ tables_1, d.before a0 Z = true) (ws : List Jvm.Cond) (a_STARTED : Addr) (a_COMPLETED : Addr) (a_TERMINATED : Addr) (h0 : Heap) (n0 : Nat) (Z0 : n0 ≤ h0.size) (f1 : S_3 Z h0 (.ref a_COMPLETED)) (f2 : a_COMPLETED ≠ a_STARTED) (f3 : S_4 Z h0 (.ref a_TERMINATED)) (f4 : a_TERMINATED ≠ a_STARTED) :
    MetFree l M_0 (head1 (Jvm.Cond.code M_0 prog_6_method_4_code 1 (some .boolean) :: ws) R_0_0_0_0) (fun a U => a = #[(.ref a_STARTED)] ∧ Z.Warmed39 U.vm ∧ U.heap = h0) (fun _ _ _ _ _ => True) (fun _ U o U' => ∃ v L, o = .returned v ∧ QP (some (.int 0)) h0 n0 v U'.heap L ∧ FrameEnd U o U' L R_0_0_0_0.cells R_0_0_0_0.slots) := by
  refine MetFree.of_bodySF (plainFor_of_name pn_com_example_offer_offer_model_TransferState) hisR ?_
  intro p e s m args below meth c s₁ Bd hml0 hP hK
  obtain ⟨rfl, hZ, hh⟩ := hP
  have hx := Bd.exec
  have hby := Bd.bytes
  have hml : c.maxLocals = 1 := hml0
  have hown : s.vm.findClass "com/example/offer/offer/model/TransferState" = some m.cls := findClass_of_methodNamed Bd.named
  have hnm := (name_of_methodNamed Bd.named Bd.method).1
  have X0 : Stand p l e R_0_0_0_0 s m #[(.ref a_STARTED)] below meth c s₁ [] 0 0 := Stand.of_body Bd
  have e0 : s₁.heap = h0 := by rw [← hh, Bd.state]; rfl
  have N0 := Fr.nil n0
  obtain ⟨T1, X1, e1, st1⟩ := getS2 X0 hx hZ hown (host := "") (Or.inl (tw_23 hw)) Via.refl e0 f1 (g := (mkF m 1 #[.val (.ref a_STARTED)] [(.ref a_STARTED)])) rfl (hb hby d1_1)
  obtain ⟨T2, X2, e2, st2⟩ := getS2 X1 hx hZ hown (host := "") (Or.inl (tw_24 hw)) Via.refl e1 f3 (g := (mkF m 8 #[.val (.ref a_STARTED)] [(.ref a_STARTED)])) rfl (hb hby d1_8)
  obtain ⟨fs, hr, hrun, hended, hW, hsame⟩ := X2.leave (v := (some (.int 0))) (fun h => by rw [Bd.returns] at h; cases h)
  refine ⟨_, _, castTop (ef1_R m a_STARTED) ?_, hrun, hended, _, _, rfl, ?_, ⟨_, rfl⟩, hW, hsame.mono (by decide) (by decide)⟩
  · show Steps p.tables e below (s₁.setTop (mkF m 0 #[.val (.ref a_STARTED)] [])) _
    refine XS.aloadN X0.here hx rfl (hb hby d1_0) rfl rfl ?_
    show Steps p.tables e below (s₁.setTop (mkF m 1 #[.val (.ref a_STARTED)] [(.ref a_STARTED)])) _
    refine st1 _ ?_
    show Steps p.tables e below (T1.setTop (mkF m 4 #[.val (.ref a_STARTED)] [(.ref a_COMPLETED), (.ref a_STARTED)])) _
    refine Jvm.RoadKit.acmp (g := (mkF m 4 #[.val (.ref a_STARTED)] [(.ref a_COMPLETED), (.ref a_STARTED)])) X1 hx rfl rfl rfl (pc0 := 4) (pc' := 7) (same := false) rfl (hb hby d1_4) rfl (decide_eq_false fun q => (Ne.symm f2) (Value.ref.inj q)) (by decide) (by decide) ?_
    refine XS.aloadN X1.here hx rfl (hb hby d1_7) rfl rfl ?_
    show Steps p.tables e below (T1.setTop (mkF m 8 #[.val (.ref a_STARTED)] [(.ref a_STARTED)])) _
    refine st2 _ ?_
    show Steps p.tables e below (T2.setTop (mkF m 11 #[.val (.ref a_STARTED)] [(.ref a_TERMINATED), (.ref a_STARTED)])) _
    refine Jvm.RoadKit.acmp (g := (mkF m 11 #[.val (.ref a_STARTED)] [(.ref a_TERMINATED), (.ref a_STARTED)])) X2 hx rfl rfl rfl (pc0 := 11) (pc' := 18) (same := false) rfl (hb hby d1_11) rfl (decide_eq_false fun q => (Ne.symm f4) (Value.ref.inj q)) (by decide) (by decide) ?_
    refine XS.iconst X2.here hx rfl (hb hby d1_18) ?_
    show Steps p.tables e below (T2.setTop (mkF m 19 #[.val (.ref a_STARTED)] [(.int 0)])) _
    exact retN X2 hx (t := .boolean) Bd.returns (by simp) (hb hby d1_19) hr
  · show QP (some (.int 0)) h0 n0 _ T2.heap _
    rw [e2]
    exact ⟨rfl, N0, rfl⟩
set_option maxRecDepth 65536 in
set_option maxHeartbeats 40000000 in
theorem rm0_36 (l : Launch) (Z : State) (a0 : Array Value) (hw : ∀ d ∈ tables_1, d.before a0 Z = true) (ws : List Jvm.Cond) (p0 : Int32) (p1 : Int32) (p2 : Int32) (a_REQUESTED : Addr) (a_STARTED : Addr) (a_SUSPENDED : Addr) (a_COMPLETED : Addr) (a_TERMINATED : Addr) (a_CONSUMER : Addr) (h0 : Heap) (n0 : Nat) (Z0 : n0 ≤ h0.size) (f1 : S_0 Z h0 (.ref a_REQUESTED)) (f2 : E_0 Z h0 a_REQUESTED) (f3 : S_1 Z h0 (.ref a_STARTED)) (f4 : E_0 Z h0 a_STARTED) (f5 : S_2 Z h0 (.ref a_SUSPENDED)) (f6 : E_0 Z h0 a_SUSPENDED) (f7 : S_3 Z h0 (.ref a_COMPLETED)) (f8 : E_0 Z h0 a_COMPLETED) (f9 : S_4 Z h0 (.ref a_TERMINATED)) (f10 : E_0 Z h0 a_TERMINATED) (f11 : ((p0 &&& (2147483647 : Int32)) % (5 : Int32)) = (1 : Int32)) (f12 : (p2 &&& (1 : Int32)) = (0 : Int32)) (f13 : S_5 Z h0 (.ref a_CONSUMER)) (f14 : a_COMPLETED ≠ a_STARTED) (f15 : a_TERMINATED ≠ a_STARTED) :
    MetFree l x (head1 (Jvm.Cond.code x code maxLocals ret :: ws) room_1) (fun a U => a = #[(.int p0), (.int p1), (.int p2)] ∧ Z.Warmed39 U.vm ∧ U.heap = h0) (fun _ _ _ _ _ => True) (fun _ U o U' => ∃ v L, o = .returned v ∧ QT n0 v U'.heap L ∧ ReturnedEndW U o U' L room_1.cells room_1.slots) := by
  refine MetFree.of_bodySF (plainFor_of_name pn_com_example_offer_offer_model_TransferStateIsFinalPinLaw) hisR ?_
  intro p e s m args below meth c s₁ Bd hml0 hP hK
  obtain ⟨rfl, hZ, hh⟩ := hP
  have hx := Bd.exec
  have hby := Bd.bytes
  have hml : c.maxLocals = 10 := hml0
  have hown : s.vm.findClass "com/example/offer/offer/model/TransferStateIsFinalPinLaw" = some m.cls := findClass_of_methodNamed Bd.named
  have hnm := (name_of_methodNamed Bd.named Bd.method).1
  have X0 : Stand p l e room_1 s m #[(.int p0), (.int p1), (.int p2)] below meth c s₁ [] 0 0 := Stand.of_body Bd
  have e0 : s₁.heap = h0 := by rw [← hh, Bd.state]; rfl
  have N0 := Fr.nil n0
  obtain ⟨T1, h1, L1, b33, kc34, X1, e1, N1, K1, le_b33, o1_0, o1_1, st1⟩ := sg0_25 p0 p1 p2 a_REQUESTED a_STARTED a_SUSPENDED a_COMPLETED a_TERMINATED X0 hx hZ hw hby hml hown e0 N0 Z0 f1 f2 f3 f4 f5 f6 f7 f8 f9 f10
  have sz_b33 : h0.size ≤ b33 := Nat.le_trans (Nat.le_refl _) le_b33
  have g_b33 : n0 ≤ b33 := Nat.le_trans Z0 sz_b33
  have KK1 : Keep h0 h1 [] := (Keep.refl h0 []).trans K1 (fun x hx => nomatch hx)
  have u2 : S_5 Z h1 (.ref a_CONSUMER) := own_sta_keep f13 K1 (fun _ q => nomatch q)
  obtain ⟨T3, X3, e3, st3⟩ := getS2 X1 hx hZ hown (host := "") (Or.inl (tw_15 hw)) Via.refl e1 u2 (g := (mkF m 63 #[.val (.int p0), .val (.int p1), .val (.int p2), .val (.ref b33), .val (.int 1), .val (.int ((p1 &&& (2147483647 : Int32)) % (5 : Int32))), .unset, .unset, .unset, .unset] [])) rfl (hb hby at_63)
  have va4 := o1_0
  obtain ⟨cl4, Ar4, -, S4, -, H4, -⟩ := va4
  have hin4 : ¬ ((1 : Int32) < 0 ∨ cl4.slots.size ≤ ((1 : Int32)).toNatClampNeg) := inb_of S4 ⟨by decide, by decide⟩
  have hat4 : cl4.slots[((1 : Int32)).toNatClampNeg]? = some (.ref a_STARTED) := H4 _ (Nat.lt_of_not_le fun y => hin4 (Or.inr y))
  -- pc 76: com/example/offer/offer/model/TransferState.isFinal
  have u5 : S_3 Z h1 (.ref a_COMPLETED) := own_sta_keep f7 K1 (fun _ q => nomatch q)
  have u6 : S_4 Z h1 (.ref a_TERMINATED) := own_sta_keep f9 K1 (fun _ q => nomatch q)
  have u8 : E_0 Z h1 a_STARTED := Exa.keep f4 K1
  obtain ⟨cq7, kq7, q7a, q7b, q7c⟩ := isOf hZ e3 u8
  obtain ⟨_, _, ⟨T7, L7, k7, n7⟩, -, X7, ⟨Lc7, hQ7, l7, y7, z7⟩, st7⟩ := X3.virtualBack hx (y := M_0) (z := M_0) hown (mvT hZ (tw_18 hw)) (mvT hZ (tw_19 hw)) (notFace_of_selects (args := #[]) (mvT hZ (tw_21 hw))) (mvT hZ (tw_21 hw)) (mvT hZ (tw_20 hw)) (by decide) (backOf (W := 0) (rm1_35 l Z a0 hw [] a_STARTED a_COMPLETED a_TERMINATED h1 n0 (Nat.le_trans Z0 KK1.1) u5 f14 u6 f15) hZ (tw_22 hw) (tw_3 hw) (by decide) (by decide)) q7a q7c (g := (mkF m 76 #[.val (.int p0), .val (.int p1), .val (.int p2), .val (.ref b33), .val (.int 1), .val (.int ((p1 &&& (2147483647 : Int32)) % (5 : Int32))), .val (.ref a_CONSUMER), .val (.ref a_STARTED), .unset, .unset] [(.ref a_STARTED)])) rfl (by rw [hml]; rfl) (Steps.refl _) (argsL := []) (rest := []) (lenOf pd_0 rfl) rfl (by show 2 * 0 + _ ≤ _; exact Nat.le_of_eq rfl) (hb hby at_76) (fun _ _ => ⟨rfl, e3, (by decide : 1 + 0 ≤ _), (by decide : 5 + 0 ≤ _)⟩)
  dsimp only [Pt.U, Pt.locs, Pt.cells, Pt.slots] at X7 l7 y7 z7 st7 hQ7
  subst l7 y7 z7
  obtain ⟨rfl, Nq7, e7⟩ := hQ7
  have N7 := Fr.app N1 Nq7
  obtain ⟨fs, hr, hrun, hended, hW, hsame⟩ := X7.leave (v := (some (.int 1))) (fun h => by rw [Bd.returns] at h; cases h)
  refine ⟨_, _, castTop (ef0_III m p0 p1 p2) ?_, hrun, hended, _, _, rfl, ?_, ReturnedEndW.of_narrow ⟨_, rfl⟩ hW (hsame.mono (by decide) (by decide))⟩
  · show Steps p.tables e below (s₁.setTop (mkF m 0 #[.val (.int p0), .val (.int p1), .val (.int p2), .unset, .unset, .unset, .unset, .unset, .unset, .unset] [])) _
    refine st1 _ ?_
    refine XS.iloadN X1.here hx rfl (hb hby at_35) rfl ?_
    show Steps p.tables e below (T1.setTop (mkF m 36 #[.val (.int p0), .val (.int p1), .val (.int p2), .val (.ref b33), .unset, .unset, .unset, .unset, .unset, .unset] [(.int p0)])) _
    refine X1.ldcInt hx hown (mvT hZ (tw_14 hw)) (g := (mkF m 36 #[.val (.int p0), .val (.int p1), .val (.int p2), .val (.ref b33), .unset, .unset, .unset, .unset, .unset, .unset] [(.int p0)])) rfl (hb hby at_36) _ ?_
    show Steps p.tables e below (T1.setTop (mkF m 38 #[.val (.int p0), .val (.int p1), .val (.int p2), .val (.ref b33), .unset, .unset, .unset, .unset, .unset, .unset] [(.int 2147483647), (.int p0)])) _
    refine XS.iand X1.here hx rfl (hb hby at_38) rfl ?_
    refine XS.iconst X1.here hx rfl (hb hby at_39) ?_
    show Steps p.tables e below (T1.setTop (mkF m 40 #[.val (.int p0), .val (.int p1), .val (.int p2), .val (.ref b33), .unset, .unset, .unset, .unset, .unset, .unset] [(.int 5), (.int (p0 &&& (2147483647 : Int32)))])) _
    refine iremM X1 hx rfl (hb hby at_40) rfl (by decide) ?_
    show Steps p.tables e below (T1.setTop (mkF m 41 #[.val (.int p0), .val (.int p1), .val (.int p2), .val (.ref b33), .unset, .unset, .unset, .unset, .unset, .unset] [(.int ((p0 &&& (2147483647 : Int32)) % (5 : Int32)))])) _
    rw [f11]
    refine XS.istore X1.here hx rfl (hb hby at_41) rfl (l' := #[.val (.int p0), .val (.int p1), .val (.int p2), .val (.ref b33), .val (.int 1), .unset, .unset, .unset, .unset, .unset]) rfl ?_
    refine XS.iloadN X1.here hx rfl (hb hby at_43) rfl ?_
    show Steps p.tables e below (T1.setTop (mkF m 44 #[.val (.int p0), .val (.int p1), .val (.int p2), .val (.ref b33), .val (.int 1), .unset, .unset, .unset, .unset, .unset] [(.int p1)])) _
    refine X1.ldcInt hx hown (mvT hZ (tw_14 hw)) (g := (mkF m 44 #[.val (.int p0), .val (.int p1), .val (.int p2), .val (.ref b33), .val (.int 1), .unset, .unset, .unset, .unset, .unset] [(.int p1)])) rfl (hb hby at_44) _ ?_
    show Steps p.tables e below (T1.setTop (mkF m 46 #[.val (.int p0), .val (.int p1), .val (.int p2), .val (.ref b33), .val (.int 1), .unset, .unset, .unset, .unset, .unset] [(.int 2147483647), (.int p1)])) _
    refine XS.iand X1.here hx rfl (hb hby at_46) rfl ?_
    refine XS.iconst X1.here hx rfl (hb hby at_47) ?_
    show Steps p.tables e below (T1.setTop (mkF m 48 #[.val (.int p0), .val (.int p1), .val (.int p2), .val (.ref b33), .val (.int 1), .unset, .unset, .unset, .unset, .unset] [(.int 5), (.int (p1 &&& (2147483647 : Int32)))])) _
    refine iremM X1 hx rfl (hb hby at_48) rfl (by decide) ?_
    refine XS.istore X1.here hx rfl (hb hby at_49) rfl (l' := #[.val (.int p0), .val (.int p1), .val (.int p2), .val (.ref b33), .val (.int 1), .val (.int ((p1 &&& (2147483647 : Int32)) % (5 : Int32))), .unset, .unset, .unset, .unset]) rfl ?_
    refine XS.iloadN X1.here hx rfl (hb hby at_51) rfl ?_
    refine XS.iconst X1.here hx rfl (hb hby at_52) ?_
    show Steps p.tables e below (T1.setTop (mkF m 53 #[.val (.int p0), .val (.int p1), .val (.int p2), .val (.ref b33), .val (.int 1), .val (.int ((p1 &&& (2147483647 : Int32)) % (5 : Int32))), .unset, .unset, .unset, .unset] [(.int 1), (.int p2)])) _
    refine XS.iand X1.here hx rfl (hb hby at_53) rfl ?_
    refine XS.ifYes X1.here hx rfl (pc0 := 54) (pc' := 63) rfl (hb hby at_54) rfl ((if0 _ _).trans (teq (f12 : (p2 &&& (1 : Int32)) = (0 : Int32))).1) (by decide) (by decide) ?_
    show Steps p.tables e below (T1.setTop (mkF m 63 #[.val (.int p0), .val (.int p1), .val (.int p2), .val (.ref b33), .val (.int 1), .val (.int ((p1 &&& (2147483647 : Int32)) % (5 : Int32))), .unset, .unset, .unset, .unset] [])) _
    refine st3 _ ?_
    refine XS.astore X3.here hx rfl (hb hby at_66) rfl rfl (l' := #[.val (.int p0), .val (.int p1), .val (.int p2), .val (.ref b33), .val (.int 1), .val (.int ((p1 &&& (2147483647 : Int32)) % (5 : Int32))), .val (.ref a_CONSUMER), .unset, .unset, .unset]) rfl ?_
    refine XS.aloadN X3.here hx rfl (hb hby at_68) rfl rfl ?_
    refine XS.iload X3.here hx rfl (hb hby at_69) rfl ?_
    show Steps p.tables e below (T3.setTop (mkF m 71 #[.val (.int p0), .val (.int p1), .val (.int p2), .val (.ref b33), .val (.int 1), .val (.int ((p1 &&& (2147483647 : Int32)) % (5 : Int32))), .val (.ref a_CONSUMER), .unset, .unset, .unset] [(.int 1), (.ref b33)])) _
    refine X3.aaload hx (j := (1 : Int32)) (v := (.ref a_STARTED)) (by rw [e3]; exact Ar4.1) (State.isArrayOf_alike hZ.alike Ar4.2.1) rfl Ar4.2.2 hin4 hat4 (g := (mkF m 71 #[.val (.int p0), .val (.int p1), .val (.int p2), .val (.ref b33), .val (.int 1), .val (.int ((p1 &&& (2147483647 : Int32)) % (5 : Int32))), .val (.ref a_CONSUMER), .unset, .unset, .unset] [(.int 1), (.ref b33)])) rfl rfl (hb hby at_71) _ ?_
    refine XS.astore X3.here hx rfl (hb hby at_72) rfl rfl (l' := #[.val (.int p0), .val (.int p1), .val (.int p2), .val (.ref b33), .val (.int 1), .val (.int ((p1 &&& (2147483647 : Int32)) % (5 : Int32))), .val (.ref a_CONSUMER), .val (.ref a_STARTED), .unset, .unset]) rfl ?_
    refine XS.aload X3.here hx rfl (hb hby at_74) rfl rfl ?_
    show Steps p.tables e below (T3.setTop (mkF m 76 #[.val (.int p0), .val (.int p1), .val (.int p2), .val (.ref b33), .val (.int 1), .val (.int ((p1 &&& (2147483647 : Int32)) % (5 : Int32))), .val (.ref a_CONSUMER), .val (.ref a_STARTED), .unset, .unset] [(.ref a_STARTED)])) _
    refine st7.trans ?_
    refine XS.istore X7.here hx rfl (hb hby at_79) rfl (l' := #[.val (.int p0), .val (.int p1), .val (.int p2), .val (.ref b33), .val (.int 1), .val (.int ((p1 &&& (2147483647 : Int32)) % (5 : Int32))), .val (.ref a_CONSUMER), .val (.ref a_STARTED), .val (.int 0), .unset]) rfl ?_
    refine XS.iload X7.here hx rfl (hb hby at_81) rfl ?_
    refine XS.iconst X7.here hx rfl (hb hby at_83) ?_
    refine XS.icmpYes X7.here hx rfl (pc0 := 84) (pc' := 91) rfl (hb hby at_84) rfl (by decide) (by decide) (by decide) ?_
    show Steps p.tables e below (T7.setTop (mkF m 91 #[.val (.int p0), .val (.int p1), .val (.int p2), .val (.ref b33), .val (.int 1), .val (.int ((p1 &&& (2147483647 : Int32)) % (5 : Int32))), .val (.ref a_CONSUMER), .val (.ref a_STARTED), .val (.int 0), .unset] [])) _
    refine XS.iconst X7.here hx rfl (hb hby at_91) ?_
    refine XS.istore X7.here hx rfl (hb hby at_92) rfl (l' := #[.val (.int p0), .val (.int p1), .val (.int p2), .val (.ref b33), .val (.int 1), .val (.int ((p1 &&& (2147483647 : Int32)) % (5 : Int32))), .val (.ref a_CONSUMER), .val (.ref a_STARTED), .val (.int 0), .val (.int 0)]) rfl ?_
    refine XS.iload X7.here hx rfl (hb hby at_94) rfl ?_
    refine XS.iload X7.here hx rfl (hb hby at_96) rfl ?_
    refine XS.icmpYes X7.here hx rfl (pc0 := 98) (pc' := 103) rfl (hb hby at_98) rfl (by decide) (by decide) (by decide) ?_
    show Steps p.tables e below (T7.setTop (mkF m 103 #[.val (.int p0), .val (.int p1), .val (.int p2), .val (.ref b33), .val (.int 1), .val (.int ((p1 &&& (2147483647 : Int32)) % (5 : Int32))), .val (.ref a_CONSUMER), .val (.ref a_STARTED), .val (.int 0), .val (.int 0)] [])) _
    refine XS.iload X7.here hx rfl (hb hby at_103) rfl ?_
    refine XS.ifYes X7.here hx rfl (pc0 := 105) (pc' := 124) rfl (hb hby at_105) rfl (by decide) (by decide) (by decide) ?_
    refine XS.iconst X7.here hx rfl (hb hby at_124) ?_
    show Steps p.tables e below (T7.setTop (mkF m 125 #[.val (.int p0), .val (.int p1), .val (.int p2), .val (.ref b33), .val (.int 1), .val (.int ((p1 &&& (2147483647 : Int32)) % (5 : Int32))), .val (.ref a_CONSUMER), .val (.ref a_STARTED), .val (.int 0), .val (.int 0)] [(.int 1)])) _
    exact retN X7 hx (t := .boolean) Bd.returns (by simp) (hb hby at_125) hr
  · show QT n0 _ T7.heap _
    rw [e7]
    exact ⟨rfl, N7⟩
set_option maxRecDepth 65536 in
set_option maxHeartbeats 40000000 in
theorem rm0_39 (l : Launch) (Z : State) (a0 : Array Value) (hw : ∀ d ∈ tables_1, d.before a0 Z = true) (ws : List Jvm.Cond) (p0 : Int32) (p1 : Int32) (p2 : Int32) (a_REQUESTED : Addr) (a_STARTED : Addr) (a_SUSPENDED : Addr) (a_COMPLETED : Addr) (a_TERMINATED : Addr) (a_PROVIDER : Addr) (h0 : Heap) (n0 : Nat) (Z0 : n0 ≤ h0.size) (f1 : S_0 Z h0 (.ref a_REQUESTED)) (f2 : E_0 Z h0 a_REQUESTED) (f3 : S_1 Z h0 (.ref a_STARTED)) (f4 : E_0 Z h0 a_STARTED) (f5 : S_2 Z h0 (.ref a_SUSPENDED)) (f6 : E_0 Z h0 a_SUSPENDED) (f7 : S_3 Z h0 (.ref a_COMPLETED)) (f8 : E_0 Z h0 a_COMPLETED) (f9 : S_4 Z h0 (.ref a_TERMINATED)) (f10 : E_0 Z h0 a_TERMINATED) (f11 : ((p0 &&& (2147483647 : Int32)) % (5 : Int32)) = (1 : Int32)) (f12 : ¬ ((p2 &&& (1 : Int32)) = (0 : Int32))) (f13 : S_6 Z h0 (.ref a_PROVIDER)) (f14 : a_COMPLETED ≠ a_STARTED) (f15 : a_TERMINATED ≠ a_STARTED) :
    MetFree l x (head1 (Jvm.Cond.code x code maxLocals ret :: ws) room_1) (fun a U => a = #[(.int p0), (.int p1), (.int p2)] ∧ Z.Warmed39 U.vm ∧ U.heap = h0) (fun _ _ _ _ _ => True) (fun _ U o U' => ∃ v L, o = .returned v ∧ QT n0 v U'.heap L ∧ ReturnedEndW U o U' L room_1.cells room_1.slots) := by
  refine MetFree.of_bodySF (plainFor_of_name pn_com_example_offer_offer_model_TransferStateIsFinalPinLaw) hisR ?_
  intro p e s m args below meth c s₁ Bd hml0 hP hK
  obtain ⟨rfl, hZ, hh⟩ := hP
  have hx := Bd.exec
  have hby := Bd.bytes
  have hml : c.maxLocals = 10 := hml0
  have hown : s.vm.findClass "com/example/offer/offer/model/TransferStateIsFinalPinLaw" = some m.cls := findClass_of_methodNamed Bd.named
  have hnm := (name_of_methodNamed Bd.named Bd.method).1
  have X0 : Stand p l e room_1 s m #[(.int p0), (.int p1), (.int p2)] below meth c s₁ [] 0 0 := Stand.of_body Bd
  have e0 : s₁.heap = h0 := by rw [← hh, Bd.state]; rfl
  have N0 := Fr.nil n0
  obtain ⟨T1, h1, L1, b37, kc38, X1, e1, N1, K1, le_b37, o1_0, o1_1, st1⟩ := sg0_25 p0 p1 p2 a_REQUESTED a_STARTED a_SUSPENDED a_COMPLETED a_TERMINATED X0 hx hZ hw hby hml hown e0 N0 Z0 f1 f2 f3 f4 f5 f6 f7 f8 f9 f10
  have sz_b37 : h0.size ≤ b37 := Nat.le_trans (Nat.le_refl _) le_b37
  have g_b37 : n0 ≤ b37 := Nat.le_trans Z0 sz_b37
  have KK1 : Keep h0 h1 [] := (Keep.refl h0 []).trans K1 (fun x hx => nomatch hx)
  have u2 : S_6 Z h1 (.ref a_PROVIDER) := own_sta_keep f13 K1 (fun _ q => nomatch q)
  obtain ⟨T3, X3, e3, st3⟩ := getS2 X1 hx hZ hown (host := "") (Or.inl (tw_25 hw)) Via.refl e1 u2 (g := (mkF m 57 #[.val (.int p0), .val (.int p1), .val (.int p2), .val (.ref b37), .val (.int 1), .val (.int ((p1 &&& (2147483647 : Int32)) % (5 : Int32))), .unset, .unset, .unset, .unset] [])) rfl (hb hby at_57)
  have va4 := o1_0
  obtain ⟨cl4, Ar4, -, S4, -, H4, -⟩ := va4
  have hin4 : ¬ ((1 : Int32) < 0 ∨ cl4.slots.size ≤ ((1 : Int32)).toNatClampNeg) := inb_of S4 ⟨by decide, by decide⟩
  have hat4 : cl4.slots[((1 : Int32)).toNatClampNeg]? = some (.ref a_STARTED) := H4 _ (Nat.lt_of_not_le fun y => hin4 (Or.inr y))
  -- pc 76: com/example/offer/offer/model/TransferState.isFinal
  have u5 : S_3 Z h1 (.ref a_COMPLETED) := own_sta_keep f7 K1 (fun _ q => nomatch q)
  have u6 : S_4 Z h1 (.ref a_TERMINATED) := own_sta_keep f9 K1 (fun _ q => nomatch q)
  have u8 : E_0 Z h1 a_STARTED := Exa.keep f4 K1
  obtain ⟨cq7, kq7, q7a, q7b, q7c⟩ := isOf hZ e3 u8
  obtain ⟨_, _, ⟨T7, L7, k7, n7⟩, -, X7, ⟨Lc7, hQ7, l7, y7, z7⟩, st7⟩ := X3.virtualBack hx (y := M_0) (z := M_0) hown (mvT hZ (tw_18 hw)) (mvT hZ (tw_19 hw)) (notFace_of_selects (args := #[]) (mvT hZ (tw_21 hw))) (mvT hZ (tw_21 hw)) (mvT hZ (tw_20 hw)) (by decide) (backOf (W := 0) (rm1_35 l Z a0 hw [] a_STARTED a_COMPLETED a_TERMINATED h1 n0 (Nat.le_trans Z0 KK1.1) u5 f14 u6 f15) hZ (tw_22 hw) (tw_3 hw) (by decide) (by decide)) q7a q7c (g := (mkF m 76 #[.val (.int p0), .val (.int p1), .val (.int p2), .val (.ref b37), .val (.int 1), .val (.int ((p1 &&& (2147483647 : Int32)) % (5 : Int32))), .val (.ref a_PROVIDER), .val (.ref a_STARTED), .unset, .unset] [(.ref a_STARTED)])) rfl (by rw [hml]; rfl) (Steps.refl _) (argsL := []) (rest := []) (lenOf pd_0 rfl) rfl (by show 2 * 0 + _ ≤ _; exact Nat.le_of_eq rfl) (hb hby at_76) (fun _ _ => ⟨rfl, e3, (by decide : 1 + 0 ≤ _), (by decide : 5 + 0 ≤ _)⟩)
  dsimp only [Pt.U, Pt.locs, Pt.cells, Pt.slots] at X7 l7 y7 z7 st7 hQ7
  subst l7 y7 z7
  obtain ⟨rfl, Nq7, e7⟩ := hQ7
  have N7 := Fr.app N1 Nq7
  obtain ⟨fs, hr, hrun, hended, hW, hsame⟩ := X7.leave (v := (some (.int 1))) (fun h => by rw [Bd.returns] at h; cases h)
  refine ⟨_, _, castTop (ef0_III m p0 p1 p2) ?_, hrun, hended, _, _, rfl, ?_, ReturnedEndW.of_narrow ⟨_, rfl⟩ hW (hsame.mono (by decide) (by decide))⟩
  · show Steps p.tables e below (s₁.setTop (mkF m 0 #[.val (.int p0), .val (.int p1), .val (.int p2), .unset, .unset, .unset, .unset, .unset, .unset, .unset] [])) _
    refine st1 _ ?_
    refine XS.iloadN X1.here hx rfl (hb hby at_35) rfl ?_
    show Steps p.tables e below (T1.setTop (mkF m 36 #[.val (.int p0), .val (.int p1), .val (.int p2), .val (.ref b37), .unset, .unset, .unset, .unset, .unset, .unset] [(.int p0)])) _
    refine X1.ldcInt hx hown (mvT hZ (tw_14 hw)) (g := (mkF m 36 #[.val (.int p0), .val (.int p1), .val (.int p2), .val (.ref b37), .unset, .unset, .unset, .unset, .unset, .unset] [(.int p0)])) rfl (hb hby at_36) _ ?_
    show Steps p.tables e below (T1.setTop (mkF m 38 #[.val (.int p0), .val (.int p1), .val (.int p2), .val (.ref b37), .unset, .unset, .unset, .unset, .unset, .unset] [(.int 2147483647), (.int p0)])) _
    refine XS.iand X1.here hx rfl (hb hby at_38) rfl ?_
    refine XS.iconst X1.here hx rfl (hb hby at_39) ?_
    show Steps p.tables e below (T1.setTop (mkF m 40 #[.val (.int p0), .val (.int p1), .val (.int p2), .val (.ref b37), .unset, .unset, .unset, .unset, .unset, .unset] [(.int 5), (.int (p0 &&& (2147483647 : Int32)))])) _
    refine iremM X1 hx rfl (hb hby at_40) rfl (by decide) ?_
    show Steps p.tables e below (T1.setTop (mkF m 41 #[.val (.int p0), .val (.int p1), .val (.int p2), .val (.ref b37), .unset, .unset, .unset, .unset, .unset, .unset] [(.int ((p0 &&& (2147483647 : Int32)) % (5 : Int32)))])) _
    rw [f11]
    refine XS.istore X1.here hx rfl (hb hby at_41) rfl (l' := #[.val (.int p0), .val (.int p1), .val (.int p2), .val (.ref b37), .val (.int 1), .unset, .unset, .unset, .unset, .unset]) rfl ?_
    refine XS.iloadN X1.here hx rfl (hb hby at_43) rfl ?_
    show Steps p.tables e below (T1.setTop (mkF m 44 #[.val (.int p0), .val (.int p1), .val (.int p2), .val (.ref b37), .val (.int 1), .unset, .unset, .unset, .unset, .unset] [(.int p1)])) _
    refine X1.ldcInt hx hown (mvT hZ (tw_14 hw)) (g := (mkF m 44 #[.val (.int p0), .val (.int p1), .val (.int p2), .val (.ref b37), .val (.int 1), .unset, .unset, .unset, .unset, .unset] [(.int p1)])) rfl (hb hby at_44) _ ?_
    show Steps p.tables e below (T1.setTop (mkF m 46 #[.val (.int p0), .val (.int p1), .val (.int p2), .val (.ref b37), .val (.int 1), .unset, .unset, .unset, .unset, .unset] [(.int 2147483647), (.int p1)])) _
    refine XS.iand X1.here hx rfl (hb hby at_46) rfl ?_
    refine XS.iconst X1.here hx rfl (hb hby at_47) ?_
    show Steps p.tables e below (T1.setTop (mkF m 48 #[.val (.int p0), .val (.int p1), .val (.int p2), .val (.ref b37), .val (.int 1), .unset, .unset, .unset, .unset, .unset] [(.int 5), (.int (p1 &&& (2147483647 : Int32)))])) _
    refine iremM X1 hx rfl (hb hby at_48) rfl (by decide) ?_
    refine XS.istore X1.here hx rfl (hb hby at_49) rfl (l' := #[.val (.int p0), .val (.int p1), .val (.int p2), .val (.ref b37), .val (.int 1), .val (.int ((p1 &&& (2147483647 : Int32)) % (5 : Int32))), .unset, .unset, .unset, .unset]) rfl ?_
    refine XS.iloadN X1.here hx rfl (hb hby at_51) rfl ?_
    refine XS.iconst X1.here hx rfl (hb hby at_52) ?_
    show Steps p.tables e below (T1.setTop (mkF m 53 #[.val (.int p0), .val (.int p1), .val (.int p2), .val (.ref b37), .val (.int 1), .val (.int ((p1 &&& (2147483647 : Int32)) % (5 : Int32))), .unset, .unset, .unset, .unset] [(.int 1), (.int p2)])) _
    refine XS.iand X1.here hx rfl (hb hby at_53) rfl ?_
    refine XS.ifNo X1.here hx rfl (hb hby at_54) rfl ((if0 _ _).trans (feq (f12 : ¬ ((p2 &&& (1 : Int32)) = (0 : Int32)))).1) ?_
    show Steps p.tables e below (T1.setTop (mkF m 57 #[.val (.int p0), .val (.int p1), .val (.int p2), .val (.ref b37), .val (.int 1), .val (.int ((p1 &&& (2147483647 : Int32)) % (5 : Int32))), .unset, .unset, .unset, .unset] [])) _
    refine st3 _ ?_
    refine XS.goto X3.here hx rfl (pc0 := 60) (pc' := 66) rfl (hb hby at_60) (by decide) (by decide) ?_
    refine XS.astore X3.here hx rfl (hb hby at_66) rfl rfl (l' := #[.val (.int p0), .val (.int p1), .val (.int p2), .val (.ref b37), .val (.int 1), .val (.int ((p1 &&& (2147483647 : Int32)) % (5 : Int32))), .val (.ref a_PROVIDER), .unset, .unset, .unset]) rfl ?_
    refine XS.aloadN X3.here hx rfl (hb hby at_68) rfl rfl ?_
    refine XS.iload X3.here hx rfl (hb hby at_69) rfl ?_
    show Steps p.tables e below (T3.setTop (mkF m 71 #[.val (.int p0), .val (.int p1), .val (.int p2), .val (.ref b37), .val (.int 1), .val (.int ((p1 &&& (2147483647 : Int32)) % (5 : Int32))), .val (.ref a_PROVIDER), .unset, .unset, .unset] [(.int 1), (.ref b37)])) _
    refine X3.aaload hx (j := (1 : Int32)) (v := (.ref a_STARTED)) (by rw [e3]; exact Ar4.1) (State.isArrayOf_alike hZ.alike Ar4.2.1) rfl Ar4.2.2 hin4 hat4 (g := (mkF m 71 #[.val (.int p0), .val (.int p1), .val (.int p2), .val (.ref b37), .val (.int 1), .val (.int ((p1 &&& (2147483647 : Int32)) % (5 : Int32))), .val (.ref a_PROVIDER), .unset, .unset, .unset] [(.int 1), (.ref b37)])) rfl rfl (hb hby at_71) _ ?_
    refine XS.astore X3.here hx rfl (hb hby at_72) rfl rfl (l' := #[.val (.int p0), .val (.int p1), .val (.int p2), .val (.ref b37), .val (.int 1), .val (.int ((p1 &&& (2147483647 : Int32)) % (5 : Int32))), .val (.ref a_PROVIDER), .val (.ref a_STARTED), .unset, .unset]) rfl ?_
    refine XS.aload X3.here hx rfl (hb hby at_74) rfl rfl ?_
    show Steps p.tables e below (T3.setTop (mkF m 76 #[.val (.int p0), .val (.int p1), .val (.int p2), .val (.ref b37), .val (.int 1), .val (.int ((p1 &&& (2147483647 : Int32)) % (5 : Int32))), .val (.ref a_PROVIDER), .val (.ref a_STARTED), .unset, .unset] [(.ref a_STARTED)])) _
    refine st7.trans ?_
    refine XS.istore X7.here hx rfl (hb hby at_79) rfl (l' := #[.val (.int p0), .val (.int p1), .val (.int p2), .val (.ref b37), .val (.int 1), .val (.int ((p1 &&& (2147483647 : Int32)) % (5 : Int32))), .val (.ref a_PROVIDER), .val (.ref a_STARTED), .val (.int 0), .unset]) rfl ?_
    refine XS.iload X7.here hx rfl (hb hby at_81) rfl ?_
    refine XS.iconst X7.here hx rfl (hb hby at_83) ?_
    refine XS.icmpYes X7.here hx rfl (pc0 := 84) (pc' := 91) rfl (hb hby at_84) rfl (by decide) (by decide) (by decide) ?_
    show Steps p.tables e below (T7.setTop (mkF m 91 #[.val (.int p0), .val (.int p1), .val (.int p2), .val (.ref b37), .val (.int 1), .val (.int ((p1 &&& (2147483647 : Int32)) % (5 : Int32))), .val (.ref a_PROVIDER), .val (.ref a_STARTED), .val (.int 0), .unset] [])) _
    refine XS.iconst X7.here hx rfl (hb hby at_91) ?_
    refine XS.istore X7.here hx rfl (hb hby at_92) rfl (l' := #[.val (.int p0), .val (.int p1), .val (.int p2), .val (.ref b37), .val (.int 1), .val (.int ((p1 &&& (2147483647 : Int32)) % (5 : Int32))), .val (.ref a_PROVIDER), .val (.ref a_STARTED), .val (.int 0), .val (.int 0)]) rfl ?_
    refine XS.iload X7.here hx rfl (hb hby at_94) rfl ?_
    refine XS.iload X7.here hx rfl (hb hby at_96) rfl ?_
    refine XS.icmpYes X7.here hx rfl (pc0 := 98) (pc' := 103) rfl (hb hby at_98) rfl (by decide) (by decide) (by decide) ?_
    show Steps p.tables e below (T7.setTop (mkF m 103 #[.val (.int p0), .val (.int p1), .val (.int p2), .val (.ref b37), .val (.int 1), .val (.int ((p1 &&& (2147483647 : Int32)) % (5 : Int32))), .val (.ref a_PROVIDER), .val (.ref a_STARTED), .val (.int 0), .val (.int 0)] [])) _
    refine XS.iload X7.here hx rfl (hb hby at_103) rfl ?_
    refine XS.ifYes X7.here hx rfl (pc0 := 105) (pc' := 124) rfl (hb hby at_105) rfl (by decide) (by decide) (by decide) ?_
    refine XS.iconst X7.here hx rfl (hb hby at_124) ?_
    show Steps p.tables e below (T7.setTop (mkF m 125 #[.val (.int p0), .val (.int p1), .val (.int p2), .val (.ref b37), .val (.int 1), .val (.int ((p1 &&& (2147483647 : Int32)) % (5 : Int32))), .val (.ref a_PROVIDER), .val (.ref a_STARTED), .val (.int 0), .val (.int 0)] [(.int 1)])) _
    exact retN X7 hx (t := .boolean) Bd.returns (by simp) (hb hby at_125) hr
  · show QT n0 _ T7.heap _
    rw [e7]
    exact ⟨rfl, N7⟩
set_option maxRecDepth 65536 in
set_option maxHeartbeats 40000000 in
theorem rm1_42 (l : Launch) (Z : State) (a0 : Array Value) (hw : ∀ d ∈ tables_1, d.before a0 Z = true) (ws : List Jvm.Cond) (a_SUSPENDED : Addr) (a_COMPLETED : Addr) (a_TERMINATED : Addr) (h0 : Heap) (n0 : Nat) (Z0 : n0 ≤ h0.size) (f1 : S_3 Z h0 (.ref a_COMPLETED)) (f2 : a_COMPLETED ≠ a_SUSPENDED) (f3 : S_4 Z h0 (.ref a_TERMINATED)) (f4 : a_TERMINATED ≠ a_SUSPENDED) :
    MetFree l M_0 (head1 (Jvm.Cond.code M_0 prog_6_method_4_code 1 (some .boolean) :: ws) R_0_0_0_0) (fun a U => a = #[(.ref a_SUSPENDED)] ∧ Z.Warmed39 U.vm ∧ U.heap = h0) (fun _ _ _ _ _ => True) (fun _ U o U' => ∃ v L, o = .returned v ∧ QP (some (.int 0)) h0 n0 v U'.heap L ∧ FrameEnd U o U' L R_0_0_0_0.cells R_0_0_0_0.slots) := by
  refine MetFree.of_bodySF (plainFor_of_name pn_com_example_offer_offer_model_TransferState) hisR ?_
  intro p e s m args below meth c s₁ Bd hml0 hP hK
  obtain ⟨rfl, hZ, hh⟩ := hP
  have hx := Bd.exec
  have hby := Bd.bytes
  have hml : c.maxLocals = 1 := hml0
  have hown : s.vm.findClass "com/example/offer/offer/model/TransferState" = some m.cls := findClass_of_methodNamed Bd.named
  have hnm := (name_of_methodNamed Bd.named Bd.method).1
  have X0 : Stand p l e R_0_0_0_0 s m #[(.ref a_SUSPENDED)] below meth c s₁ [] 0 0 := Stand.of_body Bd
  have e0 : s₁.heap = h0 := by rw [← hh, Bd.state]; rfl
  have N0 := Fr.nil n0
  obtain ⟨T1, X1, e1, st1⟩ := getS2 X0 hx hZ hown (host := "") (Or.inl (tw_23 hw)) Via.refl e0 f1 (g := (mkF m 1 #[.val (.ref a_SUSPENDED)] [(.ref a_SUSPENDED)])) rfl (hb hby d1_1)
  obtain ⟨T2, X2, e2, st2⟩ := getS2 X1 hx hZ hown (host := "") (Or.inl (tw_24 hw)) Via.refl e1 f3 (g := (mkF m 8 #[.val (.ref a_SUSPENDED)] [(.ref a_SUSPENDED)])) rfl (hb hby d1_8)
  obtain ⟨fs, hr, hrun, hended, hW, hsame⟩ := X2.leave (v := (some (.int 0))) (fun h => by rw [Bd.returns] at h; cases h)
  refine ⟨_, _, castTop (ef1_R m a_SUSPENDED) ?_, hrun, hended, _, _, rfl, ?_, ⟨_, rfl⟩, hW, hsame.mono (by decide) (by decide)⟩
  · show Steps p.tables e below (s₁.setTop (mkF m 0 #[.val (.ref a_SUSPENDED)] [])) _
    refine XS.aloadN X0.here hx rfl (hb hby d1_0) rfl rfl ?_
    show Steps p.tables e below (s₁.setTop (mkF m 1 #[.val (.ref a_SUSPENDED)] [(.ref a_SUSPENDED)])) _
    refine st1 _ ?_
    show Steps p.tables e below (T1.setTop (mkF m 4 #[.val (.ref a_SUSPENDED)] [(.ref a_COMPLETED), (.ref a_SUSPENDED)])) _
    refine Jvm.RoadKit.acmp (g := (mkF m 4 #[.val (.ref a_SUSPENDED)] [(.ref a_COMPLETED), (.ref a_SUSPENDED)])) X1 hx rfl rfl rfl (pc0 := 4) (pc' := 7) (same := false) rfl (hb hby d1_4) rfl (decide_eq_false fun q => (Ne.symm f2) (Value.ref.inj q)) (by decide) (by decide) ?_
    refine XS.aloadN X1.here hx rfl (hb hby d1_7) rfl rfl ?_
    show Steps p.tables e below (T1.setTop (mkF m 8 #[.val (.ref a_SUSPENDED)] [(.ref a_SUSPENDED)])) _
    refine st2 _ ?_
    show Steps p.tables e below (T2.setTop (mkF m 11 #[.val (.ref a_SUSPENDED)] [(.ref a_TERMINATED), (.ref a_SUSPENDED)])) _
    refine Jvm.RoadKit.acmp (g := (mkF m 11 #[.val (.ref a_SUSPENDED)] [(.ref a_TERMINATED), (.ref a_SUSPENDED)])) X2 hx rfl rfl rfl (pc0 := 11) (pc' := 18) (same := false) rfl (hb hby d1_11) rfl (decide_eq_false fun q => (Ne.symm f4) (Value.ref.inj q)) (by decide) (by decide) ?_
    refine XS.iconst X2.here hx rfl (hb hby d1_18) ?_
    show Steps p.tables e below (T2.setTop (mkF m 19 #[.val (.ref a_SUSPENDED)] [(.int 0)])) _
    exact retN X2 hx (t := .boolean) Bd.returns (by simp) (hb hby d1_19) hr
  · show QP (some (.int 0)) h0 n0 _ T2.heap _
    rw [e2]
    exact ⟨rfl, N0, rfl⟩
set_option maxRecDepth 65536 in
set_option maxHeartbeats 40000000 in
theorem rm0_43 (l : Launch) (Z : State) (a0 : Array Value) (hw : ∀ d ∈ tables_1, d.before a0 Z = true) (ws : List Jvm.Cond) (p0 : Int32) (p1 : Int32) (p2 : Int32) (a_REQUESTED : Addr) (a_STARTED : Addr) (a_SUSPENDED : Addr) (a_COMPLETED : Addr) (a_TERMINATED : Addr) (a_CONSUMER : Addr) (h0 : Heap) (n0 : Nat) (Z0 : n0 ≤ h0.size) (f1 : S_0 Z h0 (.ref a_REQUESTED)) (f2 : E_0 Z h0 a_REQUESTED) (f3 : S_1 Z h0 (.ref a_STARTED)) (f4 : E_0 Z h0 a_STARTED) (f5 : S_2 Z h0 (.ref a_SUSPENDED)) (f6 : E_0 Z h0 a_SUSPENDED) (f7 : S_3 Z h0 (.ref a_COMPLETED)) (f8 : E_0 Z h0 a_COMPLETED) (f9 : S_4 Z h0 (.ref a_TERMINATED)) (f10 : E_0 Z h0 a_TERMINATED) (f11 : ((p0 &&& (2147483647 : Int32)) % (5 : Int32)) = (2 : Int32)) (f12 : (p2 &&& (1 : Int32)) = (0 : Int32)) (f13 : S_5 Z h0 (.ref a_CONSUMER)) (f14 : a_COMPLETED ≠ a_SUSPENDED) (f15 : a_TERMINATED ≠ a_SUSPENDED) :
    MetFree l x (head1 (Jvm.Cond.code x code maxLocals ret :: ws) room_1) (fun a U => a = #[(.int p0), (.int p1), (.int p2)] ∧ Z.Warmed39 U.vm ∧ U.heap = h0) (fun _ _ _ _ _ => True) (fun _ U o U' => ∃ v L, o = .returned v ∧ QT n0 v U'.heap L ∧ ReturnedEndW U o U' L room_1.cells room_1.slots) := by
  refine MetFree.of_bodySF (plainFor_of_name pn_com_example_offer_offer_model_TransferStateIsFinalPinLaw) hisR ?_
  intro p e s m args below meth c s₁ Bd hml0 hP hK
  obtain ⟨rfl, hZ, hh⟩ := hP
  have hx := Bd.exec
  have hby := Bd.bytes
  have hml : c.maxLocals = 10 := hml0
  have hown : s.vm.findClass "com/example/offer/offer/model/TransferStateIsFinalPinLaw" = some m.cls := findClass_of_methodNamed Bd.named
  have hnm := (name_of_methodNamed Bd.named Bd.method).1
  have X0 : Stand p l e room_1 s m #[(.int p0), (.int p1), (.int p2)] below meth c s₁ [] 0 0 := Stand.of_body Bd
  have e0 : s₁.heap = h0 := by rw [← hh, Bd.state]; rfl
  have N0 := Fr.nil n0
  obtain ⟨T1, h1, L1, b40, kc41, X1, e1, N1, K1, le_b40, o1_0, o1_1, st1⟩ := sg0_25 p0 p1 p2 a_REQUESTED a_STARTED a_SUSPENDED a_COMPLETED a_TERMINATED X0 hx hZ hw hby hml hown e0 N0 Z0 f1 f2 f3 f4 f5 f6 f7 f8 f9 f10
  have sz_b40 : h0.size ≤ b40 := Nat.le_trans (Nat.le_refl _) le_b40
  have g_b40 : n0 ≤ b40 := Nat.le_trans Z0 sz_b40
  have KK1 : Keep h0 h1 [] := (Keep.refl h0 []).trans K1 (fun x hx => nomatch hx)
  have u2 : S_5 Z h1 (.ref a_CONSUMER) := own_sta_keep f13 K1 (fun _ q => nomatch q)
  obtain ⟨T3, X3, e3, st3⟩ := getS2 X1 hx hZ hown (host := "") (Or.inl (tw_15 hw)) Via.refl e1 u2 (g := (mkF m 63 #[.val (.int p0), .val (.int p1), .val (.int p2), .val (.ref b40), .val (.int 2), .val (.int ((p1 &&& (2147483647 : Int32)) % (5 : Int32))), .unset, .unset, .unset, .unset] [])) rfl (hb hby at_63)
  have va4 := o1_0
  obtain ⟨cl4, Ar4, -, S4, -, H4, -⟩ := va4
  have hin4 : ¬ ((2 : Int32) < 0 ∨ cl4.slots.size ≤ ((2 : Int32)).toNatClampNeg) := inb_of S4 ⟨by decide, by decide⟩
  have hat4 : cl4.slots[((2 : Int32)).toNatClampNeg]? = some (.ref a_SUSPENDED) := H4 _ (Nat.lt_of_not_le fun y => hin4 (Or.inr y))
  -- pc 76: com/example/offer/offer/model/TransferState.isFinal
  have u5 : S_3 Z h1 (.ref a_COMPLETED) := own_sta_keep f7 K1 (fun _ q => nomatch q)
  have u6 : S_4 Z h1 (.ref a_TERMINATED) := own_sta_keep f9 K1 (fun _ q => nomatch q)
  have u8 : E_0 Z h1 a_SUSPENDED := Exa.keep f6 K1
  obtain ⟨cq7, kq7, q7a, q7b, q7c⟩ := isOf hZ e3 u8
  obtain ⟨_, _, ⟨T7, L7, k7, n7⟩, -, X7, ⟨Lc7, hQ7, l7, y7, z7⟩, st7⟩ := X3.virtualBack hx (y := M_0) (z := M_0) hown (mvT hZ (tw_18 hw)) (mvT hZ (tw_19 hw)) (notFace_of_selects (args := #[]) (mvT hZ (tw_21 hw))) (mvT hZ (tw_21 hw)) (mvT hZ (tw_20 hw)) (by decide) (backOf (W := 0) (rm1_42 l Z a0 hw [] a_SUSPENDED a_COMPLETED a_TERMINATED h1 n0 (Nat.le_trans Z0 KK1.1) u5 f14 u6 f15) hZ (tw_22 hw) (tw_3 hw) (by decide) (by decide)) q7a q7c (g := (mkF m 76 #[.val (.int p0), .val (.int p1), .val (.int p2), .val (.ref b40), .val (.int 2), .val (.int ((p1 &&& (2147483647 : Int32)) % (5 : Int32))), .val (.ref a_CONSUMER), .val (.ref a_SUSPENDED), .unset, .unset] [(.ref a_SUSPENDED)])) rfl (by rw [hml]; rfl) (Steps.refl _) (argsL := []) (rest := []) (lenOf pd_0 rfl) rfl (by show 2 * 0 + _ ≤ _; exact Nat.le_of_eq rfl) (hb hby at_76) (fun _ _ => ⟨rfl, e3, (by decide : 1 + 0 ≤ _), (by decide : 5 + 0 ≤ _)⟩)
  dsimp only [Pt.U, Pt.locs, Pt.cells, Pt.slots] at X7 l7 y7 z7 st7 hQ7
  subst l7 y7 z7
  obtain ⟨rfl, Nq7, e7⟩ := hQ7
  have N7 := Fr.app N1 Nq7
  obtain ⟨fs, hr, hrun, hended, hW, hsame⟩ := X7.leave (v := (some (.int 1))) (fun h => by rw [Bd.returns] at h; cases h)
  refine ⟨_, _, castTop (ef0_III m p0 p1 p2) ?_, hrun, hended, _, _, rfl, ?_, ReturnedEndW.of_narrow ⟨_, rfl⟩ hW (hsame.mono (by decide) (by decide))⟩
  · show Steps p.tables e below (s₁.setTop (mkF m 0 #[.val (.int p0), .val (.int p1), .val (.int p2), .unset, .unset, .unset, .unset, .unset, .unset, .unset] [])) _
    refine st1 _ ?_
    refine XS.iloadN X1.here hx rfl (hb hby at_35) rfl ?_
    show Steps p.tables e below (T1.setTop (mkF m 36 #[.val (.int p0), .val (.int p1), .val (.int p2), .val (.ref b40), .unset, .unset, .unset, .unset, .unset, .unset] [(.int p0)])) _
    refine X1.ldcInt hx hown (mvT hZ (tw_14 hw)) (g := (mkF m 36 #[.val (.int p0), .val (.int p1), .val (.int p2), .val (.ref b40), .unset, .unset, .unset, .unset, .unset, .unset] [(.int p0)])) rfl (hb hby at_36) _ ?_
    show Steps p.tables e below (T1.setTop (mkF m 38 #[.val (.int p0), .val (.int p1), .val (.int p2), .val (.ref b40), .unset, .unset, .unset, .unset, .unset, .unset] [(.int 2147483647), (.int p0)])) _
    refine XS.iand X1.here hx rfl (hb hby at_38) rfl ?_
    refine XS.iconst X1.here hx rfl (hb hby at_39) ?_
    show Steps p.tables e below (T1.setTop (mkF m 40 #[.val (.int p0), .val (.int p1), .val (.int p2), .val (.ref b40), .unset, .unset, .unset, .unset, .unset, .unset] [(.int 5), (.int (p0 &&& (2147483647 : Int32)))])) _
    refine iremM X1 hx rfl (hb hby at_40) rfl (by decide) ?_
    show Steps p.tables e below (T1.setTop (mkF m 41 #[.val (.int p0), .val (.int p1), .val (.int p2), .val (.ref b40), .unset, .unset, .unset, .unset, .unset, .unset] [(.int ((p0 &&& (2147483647 : Int32)) % (5 : Int32)))])) _
    rw [f11]
    refine XS.istore X1.here hx rfl (hb hby at_41) rfl (l' := #[.val (.int p0), .val (.int p1), .val (.int p2), .val (.ref b40), .val (.int 2), .unset, .unset, .unset, .unset, .unset]) rfl ?_
    refine XS.iloadN X1.here hx rfl (hb hby at_43) rfl ?_
    show Steps p.tables e below (T1.setTop (mkF m 44 #[.val (.int p0), .val (.int p1), .val (.int p2), .val (.ref b40), .val (.int 2), .unset, .unset, .unset, .unset, .unset] [(.int p1)])) _
    refine X1.ldcInt hx hown (mvT hZ (tw_14 hw)) (g := (mkF m 44 #[.val (.int p0), .val (.int p1), .val (.int p2), .val (.ref b40), .val (.int 2), .unset, .unset, .unset, .unset, .unset] [(.int p1)])) rfl (hb hby at_44) _ ?_
    show Steps p.tables e below (T1.setTop (mkF m 46 #[.val (.int p0), .val (.int p1), .val (.int p2), .val (.ref b40), .val (.int 2), .unset, .unset, .unset, .unset, .unset] [(.int 2147483647), (.int p1)])) _
    refine XS.iand X1.here hx rfl (hb hby at_46) rfl ?_
    refine XS.iconst X1.here hx rfl (hb hby at_47) ?_
    show Steps p.tables e below (T1.setTop (mkF m 48 #[.val (.int p0), .val (.int p1), .val (.int p2), .val (.ref b40), .val (.int 2), .unset, .unset, .unset, .unset, .unset] [(.int 5), (.int (p1 &&& (2147483647 : Int32)))])) _
    refine iremM X1 hx rfl (hb hby at_48) rfl (by decide) ?_
    refine XS.istore X1.here hx rfl (hb hby at_49) rfl (l' := #[.val (.int p0), .val (.int p1), .val (.int p2), .val (.ref b40), .val (.int 2), .val (.int ((p1 &&& (2147483647 : Int32)) % (5 : Int32))), .unset, .unset, .unset, .unset]) rfl ?_
    refine XS.iloadN X1.here hx rfl (hb hby at_51) rfl ?_
    refine XS.iconst X1.here hx rfl (hb hby at_52) ?_
    show Steps p.tables e below (T1.setTop (mkF m 53 #[.val (.int p0), .val (.int p1), .val (.int p2), .val (.ref b40), .val (.int 2), .val (.int ((p1 &&& (2147483647 : Int32)) % (5 : Int32))), .unset, .unset, .unset, .unset] [(.int 1), (.int p2)])) _
    refine XS.iand X1.here hx rfl (hb hby at_53) rfl ?_
    refine XS.ifYes X1.here hx rfl (pc0 := 54) (pc' := 63) rfl (hb hby at_54) rfl ((if0 _ _).trans (teq (f12 : (p2 &&& (1 : Int32)) = (0 : Int32))).1) (by decide) (by decide) ?_
    show Steps p.tables e below (T1.setTop (mkF m 63 #[.val (.int p0), .val (.int p1), .val (.int p2), .val (.ref b40), .val (.int 2), .val (.int ((p1 &&& (2147483647 : Int32)) % (5 : Int32))), .unset, .unset, .unset, .unset] [])) _
    refine st3 _ ?_
    refine XS.astore X3.here hx rfl (hb hby at_66) rfl rfl (l' := #[.val (.int p0), .val (.int p1), .val (.int p2), .val (.ref b40), .val (.int 2), .val (.int ((p1 &&& (2147483647 : Int32)) % (5 : Int32))), .val (.ref a_CONSUMER), .unset, .unset, .unset]) rfl ?_
    refine XS.aloadN X3.here hx rfl (hb hby at_68) rfl rfl ?_
    refine XS.iload X3.here hx rfl (hb hby at_69) rfl ?_
    show Steps p.tables e below (T3.setTop (mkF m 71 #[.val (.int p0), .val (.int p1), .val (.int p2), .val (.ref b40), .val (.int 2), .val (.int ((p1 &&& (2147483647 : Int32)) % (5 : Int32))), .val (.ref a_CONSUMER), .unset, .unset, .unset] [(.int 2), (.ref b40)])) _
    refine X3.aaload hx (j := (2 : Int32)) (v := (.ref a_SUSPENDED)) (by rw [e3]; exact Ar4.1) (State.isArrayOf_alike hZ.alike Ar4.2.1) rfl Ar4.2.2 hin4 hat4 (g := (mkF m 71 #[.val (.int p0), .val (.int p1), .val (.int p2), .val (.ref b40), .val (.int 2), .val (.int ((p1 &&& (2147483647 : Int32)) % (5 : Int32))), .val (.ref a_CONSUMER), .unset, .unset, .unset] [(.int 2), (.ref b40)])) rfl rfl (hb hby at_71) _ ?_
    refine XS.astore X3.here hx rfl (hb hby at_72) rfl rfl (l' := #[.val (.int p0), .val (.int p1), .val (.int p2), .val (.ref b40), .val (.int 2), .val (.int ((p1 &&& (2147483647 : Int32)) % (5 : Int32))), .val (.ref a_CONSUMER), .val (.ref a_SUSPENDED), .unset, .unset]) rfl ?_
    refine XS.aload X3.here hx rfl (hb hby at_74) rfl rfl ?_
    show Steps p.tables e below (T3.setTop (mkF m 76 #[.val (.int p0), .val (.int p1), .val (.int p2), .val (.ref b40), .val (.int 2), .val (.int ((p1 &&& (2147483647 : Int32)) % (5 : Int32))), .val (.ref a_CONSUMER), .val (.ref a_SUSPENDED), .unset, .unset] [(.ref a_SUSPENDED)])) _
    refine st7.trans ?_
    refine XS.istore X7.here hx rfl (hb hby at_79) rfl (l' := #[.val (.int p0), .val (.int p1), .val (.int p2), .val (.ref b40), .val (.int 2), .val (.int ((p1 &&& (2147483647 : Int32)) % (5 : Int32))), .val (.ref a_CONSUMER), .val (.ref a_SUSPENDED), .val (.int 0), .unset]) rfl ?_
    refine XS.iload X7.here hx rfl (hb hby at_81) rfl ?_
    refine XS.iconst X7.here hx rfl (hb hby at_83) ?_
    refine XS.icmpYes X7.here hx rfl (pc0 := 84) (pc' := 91) rfl (hb hby at_84) rfl (by decide) (by decide) (by decide) ?_
    show Steps p.tables e below (T7.setTop (mkF m 91 #[.val (.int p0), .val (.int p1), .val (.int p2), .val (.ref b40), .val (.int 2), .val (.int ((p1 &&& (2147483647 : Int32)) % (5 : Int32))), .val (.ref a_CONSUMER), .val (.ref a_SUSPENDED), .val (.int 0), .unset] [])) _
    refine XS.iconst X7.here hx rfl (hb hby at_91) ?_
    refine XS.istore X7.here hx rfl (hb hby at_92) rfl (l' := #[.val (.int p0), .val (.int p1), .val (.int p2), .val (.ref b40), .val (.int 2), .val (.int ((p1 &&& (2147483647 : Int32)) % (5 : Int32))), .val (.ref a_CONSUMER), .val (.ref a_SUSPENDED), .val (.int 0), .val (.int 0)]) rfl ?_
    refine XS.iload X7.here hx rfl (hb hby at_94) rfl ?_
    refine XS.iload X7.here hx rfl (hb hby at_96) rfl ?_
    refine XS.icmpYes X7.here hx rfl (pc0 := 98) (pc' := 103) rfl (hb hby at_98) rfl (by decide) (by decide) (by decide) ?_
    show Steps p.tables e below (T7.setTop (mkF m 103 #[.val (.int p0), .val (.int p1), .val (.int p2), .val (.ref b40), .val (.int 2), .val (.int ((p1 &&& (2147483647 : Int32)) % (5 : Int32))), .val (.ref a_CONSUMER), .val (.ref a_SUSPENDED), .val (.int 0), .val (.int 0)] [])) _
    refine XS.iload X7.here hx rfl (hb hby at_103) rfl ?_
    refine XS.ifYes X7.here hx rfl (pc0 := 105) (pc' := 124) rfl (hb hby at_105) rfl (by decide) (by decide) (by decide) ?_
    refine XS.iconst X7.here hx rfl (hb hby at_124) ?_
    show Steps p.tables e below (T7.setTop (mkF m 125 #[.val (.int p0), .val (.int p1), .val (.int p2), .val (.ref b40), .val (.int 2), .val (.int ((p1 &&& (2147483647 : Int32)) % (5 : Int32))), .val (.ref a_CONSUMER), .val (.ref a_SUSPENDED), .val (.int 0), .val (.int 0)] [(.int 1)])) _
    exact retN X7 hx (t := .boolean) Bd.returns (by simp) (hb hby at_125) hr
  · show QT n0 _ T7.heap _
    rw [e7]
    exact ⟨rfl, N7⟩
set_option maxRecDepth 65536 in
set_option maxHeartbeats 40000000 in
theorem rm0_46 (l : Launch) (Z : State) (a0 : Array Value) (hw : ∀ d ∈ tables_1, d.before a0 Z = true) (ws : List Jvm.Cond) (p0 : Int32) (p1 : Int32) (p2 : Int32) (a_REQUESTED : Addr) (a_STARTED : Addr) (a_SUSPENDED : Addr) (a_COMPLETED : Addr) (a_TERMINATED : Addr) (a_PROVIDER : Addr) (h0 : Heap) (n0 : Nat) (Z0 : n0 ≤ h0.size) (f1 : S_0 Z h0 (.ref a_REQUESTED)) (f2 : E_0 Z h0 a_REQUESTED) (f3 : S_1 Z h0 (.ref a_STARTED)) (f4 : E_0 Z h0 a_STARTED) (f5 : S_2 Z h0 (.ref a_SUSPENDED)) (f6 : E_0 Z h0 a_SUSPENDED) (f7 : S_3 Z h0 (.ref a_COMPLETED)) (f8 : E_0 Z h0 a_COMPLETED) (f9 : S_4 Z h0 (.ref a_TERMINATED)) (f10 : E_0 Z h0 a_TERMINATED) (f11 : ((p0 &&& (2147483647 : Int32)) % (5 : Int32)) = (2 : Int32)) (f12 : ¬ ((p2 &&& (1 : Int32)) = (0 : Int32))) (f13 : S_6 Z h0 (.ref a_PROVIDER)) (f14 : a_COMPLETED ≠ a_SUSPENDED) (f15 : a_TERMINATED ≠ a_SUSPENDED) :
    MetFree l x (head1 (Jvm.Cond.code x code maxLocals ret :: ws) room_1) (fun a U => a = #[(.int p0), (.int p1), (.int p2)] ∧ Z.Warmed39 U.vm ∧ U.heap = h0) (fun _ _ _ _ _ => True) (fun _ U o U' => ∃ v L, o = .returned v ∧ QT n0 v U'.heap L ∧ ReturnedEndW U o U' L room_1.cells room_1.slots) := by
  refine MetFree.of_bodySF (plainFor_of_name pn_com_example_offer_offer_model_TransferStateIsFinalPinLaw) hisR ?_
  intro p e s m args below meth c s₁ Bd hml0 hP hK
  obtain ⟨rfl, hZ, hh⟩ := hP
  have hx := Bd.exec
  have hby := Bd.bytes
  have hml : c.maxLocals = 10 := hml0
  have hown : s.vm.findClass "com/example/offer/offer/model/TransferStateIsFinalPinLaw" = some m.cls := findClass_of_methodNamed Bd.named
  have hnm := (name_of_methodNamed Bd.named Bd.method).1
  have X0 : Stand p l e room_1 s m #[(.int p0), (.int p1), (.int p2)] below meth c s₁ [] 0 0 := Stand.of_body Bd
  have e0 : s₁.heap = h0 := by rw [← hh, Bd.state]; rfl
  have N0 := Fr.nil n0
  obtain ⟨T1, h1, L1, b44, kc45, X1, e1, N1, K1, le_b44, o1_0, o1_1, st1⟩ := sg0_25 p0 p1 p2 a_REQUESTED a_STARTED a_SUSPENDED a_COMPLETED a_TERMINATED X0 hx hZ hw hby hml hown e0 N0 Z0 f1 f2 f3 f4 f5 f6 f7 f8 f9 f10
  have sz_b44 : h0.size ≤ b44 := Nat.le_trans (Nat.le_refl _) le_b44
  have g_b44 : n0 ≤ b44 := Nat.le_trans Z0 sz_b44
  have KK1 : Keep h0 h1 [] := (Keep.refl h0 []).trans K1 (fun x hx => nomatch hx)
  have u2 : S_6 Z h1 (.ref a_PROVIDER) := own_sta_keep f13 K1 (fun _ q => nomatch q)
  obtain ⟨T3, X3, e3, st3⟩ := getS2 X1 hx hZ hown (host := "") (Or.inl (tw_25 hw)) Via.refl e1 u2 (g := (mkF m 57 #[.val (.int p0), .val (.int p1), .val (.int p2), .val (.ref b44), .val (.int 2), .val (.int ((p1 &&& (2147483647 : Int32)) % (5 : Int32))), .unset, .unset, .unset, .unset] [])) rfl (hb hby at_57)
  have va4 := o1_0
  obtain ⟨cl4, Ar4, -, S4, -, H4, -⟩ := va4
  have hin4 : ¬ ((2 : Int32) < 0 ∨ cl4.slots.size ≤ ((2 : Int32)).toNatClampNeg) := inb_of S4 ⟨by decide, by decide⟩
  have hat4 : cl4.slots[((2 : Int32)).toNatClampNeg]? = some (.ref a_SUSPENDED) := H4 _ (Nat.lt_of_not_le fun y => hin4 (Or.inr y))
  -- pc 76: com/example/offer/offer/model/TransferState.isFinal
  have u5 : S_3 Z h1 (.ref a_COMPLETED) := own_sta_keep f7 K1 (fun _ q => nomatch q)
  have u6 : S_4 Z h1 (.ref a_TERMINATED) := own_sta_keep f9 K1 (fun _ q => nomatch q)
  have u8 : E_0 Z h1 a_SUSPENDED := Exa.keep f6 K1
  obtain ⟨cq7, kq7, q7a, q7b, q7c⟩ := isOf hZ e3 u8
  obtain ⟨_, _, ⟨T7, L7, k7, n7⟩, -, X7, ⟨Lc7, hQ7, l7, y7, z7⟩, st7⟩ := X3.virtualBack hx (y := M_0) (z := M_0) hown (mvT hZ (tw_18 hw)) (mvT hZ (tw_19 hw)) (notFace_of_selects (args := #[]) (mvT hZ (tw_21 hw))) (mvT hZ (tw_21 hw)) (mvT hZ (tw_20 hw)) (by decide) (backOf (W := 0) (rm1_42 l Z a0 hw [] a_SUSPENDED a_COMPLETED a_TERMINATED h1 n0 (Nat.le_trans Z0 KK1.1) u5 f14 u6 f15) hZ (tw_22 hw) (tw_3 hw) (by decide) (by decide)) q7a q7c (g := (mkF m 76 #[.val (.int p0), .val (.int p1), .val (.int p2), .val (.ref b44), .val (.int 2), .val (.int ((p1 &&& (2147483647 : Int32)) % (5 : Int32))), .val (.ref a_PROVIDER), .val (.ref a_SUSPENDED), .unset, .unset] [(.ref a_SUSPENDED)])) rfl (by rw [hml]; rfl) (Steps.refl _) (argsL := []) (rest := []) (lenOf pd_0 rfl) rfl (by show 2 * 0 + _ ≤ _; exact Nat.le_of_eq rfl) (hb hby at_76) (fun _ _ => ⟨rfl, e3, (by decide : 1 + 0 ≤ _), (by decide : 5 + 0 ≤ _)⟩)
  dsimp only [Pt.U, Pt.locs, Pt.cells, Pt.slots] at X7 l7 y7 z7 st7 hQ7
  subst l7 y7 z7
  obtain ⟨rfl, Nq7, e7⟩ := hQ7
  have N7 := Fr.app N1 Nq7
  obtain ⟨fs, hr, hrun, hended, hW, hsame⟩ := X7.leave (v := (some (.int 1))) (fun h => by rw [Bd.returns] at h; cases h)
  refine ⟨_, _, castTop (ef0_III m p0 p1 p2) ?_, hrun, hended, _, _, rfl, ?_, ReturnedEndW.of_narrow ⟨_, rfl⟩ hW (hsame.mono (by decide) (by decide))⟩
  · show Steps p.tables e below (s₁.setTop (mkF m 0 #[.val (.int p0), .val (.int p1), .val (.int p2), .unset, .unset, .unset, .unset, .unset, .unset, .unset] [])) _
    refine st1 _ ?_
    refine XS.iloadN X1.here hx rfl (hb hby at_35) rfl ?_
    show Steps p.tables e below (T1.setTop (mkF m 36 #[.val (.int p0), .val (.int p1), .val (.int p2), .val (.ref b44), .unset, .unset, .unset, .unset, .unset, .unset] [(.int p0)])) _
    refine X1.ldcInt hx hown (mvT hZ (tw_14 hw)) (g := (mkF m 36 #[.val (.int p0), .val (.int p1), .val (.int p2), .val (.ref b44), .unset, .unset, .unset, .unset, .unset, .unset] [(.int p0)])) rfl (hb hby at_36) _ ?_
    show Steps p.tables e below (T1.setTop (mkF m 38 #[.val (.int p0), .val (.int p1), .val (.int p2), .val (.ref b44), .unset, .unset, .unset, .unset, .unset, .unset] [(.int 2147483647), (.int p0)])) _
    refine XS.iand X1.here hx rfl (hb hby at_38) rfl ?_
    refine XS.iconst X1.here hx rfl (hb hby at_39) ?_
    show Steps p.tables e below (T1.setTop (mkF m 40 #[.val (.int p0), .val (.int p1), .val (.int p2), .val (.ref b44), .unset, .unset, .unset, .unset, .unset, .unset] [(.int 5), (.int (p0 &&& (2147483647 : Int32)))])) _
    refine iremM X1 hx rfl (hb hby at_40) rfl (by decide) ?_
    show Steps p.tables e below (T1.setTop (mkF m 41 #[.val (.int p0), .val (.int p1), .val (.int p2), .val (.ref b44), .unset, .unset, .unset, .unset, .unset, .unset] [(.int ((p0 &&& (2147483647 : Int32)) % (5 : Int32)))])) _
    rw [f11]
    refine XS.istore X1.here hx rfl (hb hby at_41) rfl (l' := #[.val (.int p0), .val (.int p1), .val (.int p2), .val (.ref b44), .val (.int 2), .unset, .unset, .unset, .unset, .unset]) rfl ?_
    refine XS.iloadN X1.here hx rfl (hb hby at_43) rfl ?_
    show Steps p.tables e below (T1.setTop (mkF m 44 #[.val (.int p0), .val (.int p1), .val (.int p2), .val (.ref b44), .val (.int 2), .unset, .unset, .unset, .unset, .unset] [(.int p1)])) _
    refine X1.ldcInt hx hown (mvT hZ (tw_14 hw)) (g := (mkF m 44 #[.val (.int p0), .val (.int p1), .val (.int p2), .val (.ref b44), .val (.int 2), .unset, .unset, .unset, .unset, .unset] [(.int p1)])) rfl (hb hby at_44) _ ?_
    show Steps p.tables e below (T1.setTop (mkF m 46 #[.val (.int p0), .val (.int p1), .val (.int p2), .val (.ref b44), .val (.int 2), .unset, .unset, .unset, .unset, .unset] [(.int 2147483647), (.int p1)])) _
    refine XS.iand X1.here hx rfl (hb hby at_46) rfl ?_
    refine XS.iconst X1.here hx rfl (hb hby at_47) ?_
    show Steps p.tables e below (T1.setTop (mkF m 48 #[.val (.int p0), .val (.int p1), .val (.int p2), .val (.ref b44), .val (.int 2), .unset, .unset, .unset, .unset, .unset] [(.int 5), (.int (p1 &&& (2147483647 : Int32)))])) _
    refine iremM X1 hx rfl (hb hby at_48) rfl (by decide) ?_
    refine XS.istore X1.here hx rfl (hb hby at_49) rfl (l' := #[.val (.int p0), .val (.int p1), .val (.int p2), .val (.ref b44), .val (.int 2), .val (.int ((p1 &&& (2147483647 : Int32)) % (5 : Int32))), .unset, .unset, .unset, .unset]) rfl ?_
    refine XS.iloadN X1.here hx rfl (hb hby at_51) rfl ?_
    refine XS.iconst X1.here hx rfl (hb hby at_52) ?_
    show Steps p.tables e below (T1.setTop (mkF m 53 #[.val (.int p0), .val (.int p1), .val (.int p2), .val (.ref b44), .val (.int 2), .val (.int ((p1 &&& (2147483647 : Int32)) % (5 : Int32))), .unset, .unset, .unset, .unset] [(.int 1), (.int p2)])) _
    refine XS.iand X1.here hx rfl (hb hby at_53) rfl ?_
    refine XS.ifNo X1.here hx rfl (hb hby at_54) rfl ((if0 _ _).trans (feq (f12 : ¬ ((p2 &&& (1 : Int32)) = (0 : Int32)))).1) ?_
    show Steps p.tables e below (T1.setTop (mkF m 57 #[.val (.int p0), .val (.int p1), .val (.int p2), .val (.ref b44), .val (.int 2), .val (.int ((p1 &&& (2147483647 : Int32)) % (5 : Int32))), .unset, .unset, .unset, .unset] [])) _
    refine st3 _ ?_
    refine XS.goto X3.here hx rfl (pc0 := 60) (pc' := 66) rfl (hb hby at_60) (by decide) (by decide) ?_
    refine XS.astore X3.here hx rfl (hb hby at_66) rfl rfl (l' := #[.val (.int p0), .val (.int p1), .val (.int p2), .val (.ref b44), .val (.int 2), .val (.int ((p1 &&& (2147483647 : Int32)) % (5 : Int32))), .val (.ref a_PROVIDER), .unset, .unset, .unset]) rfl ?_
    refine XS.aloadN X3.here hx rfl (hb hby at_68) rfl rfl ?_
    refine XS.iload X3.here hx rfl (hb hby at_69) rfl ?_
    show Steps p.tables e below (T3.setTop (mkF m 71 #[.val (.int p0), .val (.int p1), .val (.int p2), .val (.ref b44), .val (.int 2), .val (.int ((p1 &&& (2147483647 : Int32)) % (5 : Int32))), .val (.ref a_PROVIDER), .unset, .unset, .unset] [(.int 2), (.ref b44)])) _
    refine X3.aaload hx (j := (2 : Int32)) (v := (.ref a_SUSPENDED)) (by rw [e3]; exact Ar4.1) (State.isArrayOf_alike hZ.alike Ar4.2.1) rfl Ar4.2.2 hin4 hat4 (g := (mkF m 71 #[.val (.int p0), .val (.int p1), .val (.int p2), .val (.ref b44), .val (.int 2), .val (.int ((p1 &&& (2147483647 : Int32)) % (5 : Int32))), .val (.ref a_PROVIDER), .unset, .unset, .unset] [(.int 2), (.ref b44)])) rfl rfl (hb hby at_71) _ ?_
    refine XS.astore X3.here hx rfl (hb hby at_72) rfl rfl (l' := #[.val (.int p0), .val (.int p1), .val (.int p2), .val (.ref b44), .val (.int 2), .val (.int ((p1 &&& (2147483647 : Int32)) % (5 : Int32))), .val (.ref a_PROVIDER), .val (.ref a_SUSPENDED), .unset, .unset]) rfl ?_
    refine XS.aload X3.here hx rfl (hb hby at_74) rfl rfl ?_
    show Steps p.tables e below (T3.setTop (mkF m 76 #[.val (.int p0), .val (.int p1), .val (.int p2), .val (.ref b44), .val (.int 2), .val (.int ((p1 &&& (2147483647 : Int32)) % (5 : Int32))), .val (.ref a_PROVIDER), .val (.ref a_SUSPENDED), .unset, .unset] [(.ref a_SUSPENDED)])) _
    refine st7.trans ?_
    refine XS.istore X7.here hx rfl (hb hby at_79) rfl (l' := #[.val (.int p0), .val (.int p1), .val (.int p2), .val (.ref b44), .val (.int 2), .val (.int ((p1 &&& (2147483647 : Int32)) % (5 : Int32))), .val (.ref a_PROVIDER), .val (.ref a_SUSPENDED), .val (.int 0), .unset]) rfl ?_
    refine XS.iload X7.here hx rfl (hb hby at_81) rfl ?_
    refine XS.iconst X7.here hx rfl (hb hby at_83) ?_
    refine XS.icmpYes X7.here hx rfl (pc0 := 84) (pc' := 91) rfl (hb hby at_84) rfl (by decide) (by decide) (by decide) ?_
    show Steps p.tables e below (T7.setTop (mkF m 91 #[.val (.int p0), .val (.int p1), .val (.int p2), .val (.ref b44), .val (.int 2), .val (.int ((p1 &&& (2147483647 : Int32)) % (5 : Int32))), .val (.ref a_PROVIDER), .val (.ref a_SUSPENDED), .val (.int 0), .unset] [])) _
    refine XS.iconst X7.here hx rfl (hb hby at_91) ?_
    refine XS.istore X7.here hx rfl (hb hby at_92) rfl (l' := #[.val (.int p0), .val (.int p1), .val (.int p2), .val (.ref b44), .val (.int 2), .val (.int ((p1 &&& (2147483647 : Int32)) % (5 : Int32))), .val (.ref a_PROVIDER), .val (.ref a_SUSPENDED), .val (.int 0), .val (.int 0)]) rfl ?_
    refine XS.iload X7.here hx rfl (hb hby at_94) rfl ?_
    refine XS.iload X7.here hx rfl (hb hby at_96) rfl ?_
    refine XS.icmpYes X7.here hx rfl (pc0 := 98) (pc' := 103) rfl (hb hby at_98) rfl (by decide) (by decide) (by decide) ?_
    show Steps p.tables e below (T7.setTop (mkF m 103 #[.val (.int p0), .val (.int p1), .val (.int p2), .val (.ref b44), .val (.int 2), .val (.int ((p1 &&& (2147483647 : Int32)) % (5 : Int32))), .val (.ref a_PROVIDER), .val (.ref a_SUSPENDED), .val (.int 0), .val (.int 0)] [])) _
    refine XS.iload X7.here hx rfl (hb hby at_103) rfl ?_
    refine XS.ifYes X7.here hx rfl (pc0 := 105) (pc' := 124) rfl (hb hby at_105) rfl (by decide) (by decide) (by decide) ?_
    refine XS.iconst X7.here hx rfl (hb hby at_124) ?_
    show Steps p.tables e below (T7.setTop (mkF m 125 #[.val (.int p0), .val (.int p1), .val (.int p2), .val (.ref b44), .val (.int 2), .val (.int ((p1 &&& (2147483647 : Int32)) % (5 : Int32))), .val (.ref a_PROVIDER), .val (.ref a_SUSPENDED), .val (.int 0), .val (.int 0)] [(.int 1)])) _
    exact retN X7 hx (t := .boolean) Bd.returns (by simp) (hb hby at_125) hr
  · show QT n0 _ T7.heap _
    rw [e7]
    exact ⟨rfl, N7⟩
theorem d1_14 : decode prog_6_method_4_code 14 = .ok (.iconst 1, 1) := by decide +kernel
theorem d1_15 : decode prog_6_method_4_code 15 = .ok (.goto 4, 3) := by decide +kernel
set_option maxRecDepth 65536 in
set_option maxHeartbeats 40000000 in
theorem rm1_49 (l : Launch) (Z : State) (a0 : Array Value) (hw : ∀ d ∈ tables_1, d.before a0 Z = true) (ws : List Jvm.Cond) (a_COMPLETED : Addr) (h0 : Heap) (n0 : Nat) (Z0 : n0 ≤ h0.size) (f1 : S_3 Z h0 (.ref a_COMPLETED)) :
    MetFree l M_0 (head1 (Jvm.Cond.code M_0 prog_6_method_4_code 1 (some .boolean) :: ws) R_0_0_0_0) (fun a U => a = #[(.ref a_COMPLETED)] ∧ Z.Warmed39 U.vm ∧ U.heap = h0) (fun _ _ _ _ _ => True) (fun _ U o U' => ∃ v L, o = .returned v ∧ QP (some (.int 1)) h0 n0 v U'.heap L ∧ FrameEnd U o U' L R_0_0_0_0.cells R_0_0_0_0.slots) := by
  refine MetFree.of_bodySF (plainFor_of_name pn_com_example_offer_offer_model_TransferState) hisR ?_
  intro p e s m args below meth c s₁ Bd hml0 hP hK
  obtain ⟨rfl, hZ, hh⟩ := hP
  have hx := Bd.exec
  have hby := Bd.bytes
  have hml : c.maxLocals = 1 := hml0
  have hown : s.vm.findClass "com/example/offer/offer/model/TransferState" = some m.cls := findClass_of_methodNamed Bd.named
  have hnm := (name_of_methodNamed Bd.named Bd.method).1
  have X0 : Stand p l e R_0_0_0_0 s m #[(.ref a_COMPLETED)] below meth c s₁ [] 0 0 := Stand.of_body Bd
  have e0 : s₁.heap = h0 := by rw [← hh, Bd.state]; rfl
  have N0 := Fr.nil n0
  obtain ⟨T1, X1, e1, st1⟩ := getS2 X0 hx hZ hown (host := "") (Or.inl (tw_23 hw)) Via.refl e0 f1 (g := (mkF m 1 #[.val (.ref a_COMPLETED)] [(.ref a_COMPLETED)])) rfl (hb hby d1_1)
  obtain ⟨fs, hr, hrun, hended, hW, hsame⟩ := X1.leave (v := (some (.int 1))) (fun h => by rw [Bd.returns] at h; cases h)
  refine ⟨_, _, castTop (ef1_R m a_COMPLETED) ?_, hrun, hended, _, _, rfl, ?_, ⟨_, rfl⟩, hW, hsame.mono (by decide) (by decide)⟩
  · show Steps p.tables e below (s₁.setTop (mkF m 0 #[.val (.ref a_COMPLETED)] [])) _
    refine XS.aloadN X0.here hx rfl (hb hby d1_0) rfl rfl ?_
    show Steps p.tables e below (s₁.setTop (mkF m 1 #[.val (.ref a_COMPLETED)] [(.ref a_COMPLETED)])) _
    refine st1 _ ?_
    show Steps p.tables e below (T1.setTop (mkF m 4 #[.val (.ref a_COMPLETED)] [(.ref a_COMPLETED), (.ref a_COMPLETED)])) _
    refine Jvm.RoadKit.acmp (g := (mkF m 4 #[.val (.ref a_COMPLETED)] [(.ref a_COMPLETED), (.ref a_COMPLETED)])) X1 hx rfl rfl rfl (pc0 := 4) (pc' := 14) (same := true) rfl (hb hby d1_4) rfl (decide_eq_true rfl) (by decide) (by decide) ?_
    refine XS.iconst X1.here hx rfl (hb hby d1_14) ?_
    refine XS.goto X1.here hx rfl (pc0 := 15) (pc' := 19) rfl (hb hby d1_15) (by decide) (by decide) ?_
    show Steps p.tables e below (T1.setTop (mkF m 19 #[.val (.ref a_COMPLETED)] [(.int 1)])) _
    exact retN X1 hx (t := .boolean) Bd.returns (by simp) (hb hby d1_19) hr
  · show QP (some (.int 1)) h0 n0 _ T1.heap _
    rw [e1]
    exact ⟨rfl, N0, rfl⟩
theorem tw_27 {a0 : Array Value} {Z : State} (hw : ∀ d ∈ tables_1, d.before a0 Z = true) : (Jvm.Cond.methodLink "com/example/offer/offer/model/TransferStateIsFinalPinLaw" (39 : Nat) ({ cls := "com/example/offer/offer/model/TransferState", name := "canMoveTo", desc := "(Lcom/example/offer/offer/model/TransferState;Lcom/example/offer/offer/model/Role;)Z" } : Jvm.MethodName)).before a0 Z = true := hw _ (List.mem_of_getElem? (i := 27) rfl)
theorem tw_31 {a0 : Array Value} {Z : State} (hw : ∀ d ∈ tables_1, d.before a0 Z = true) : (Jvm.Cond.code ({ cls := "com/example/offer/offer/model/TransferState", name := "canMoveTo", desc := "(Lcom/example/offer/offer/model/TransferState;Lcom/example/offer/offer/model/Role;)Z" } : Jvm.MethodName) prog_6_method_5_code (3 : Nat) (Option.some Jvm.ClassFile.FieldType.boolean)).before a0 Z = true := hw _ (List.mem_of_getElem? (i := 31) rfl)
theorem d2_0 : decode prog_6_method_5_code 0 = .ok (.aload_n 1, 1) := by decide +kernel
theorem d2_1 : decode prog_6_method_5_code 1 = .ok (.ldc 38, 2) := by decide +kernel
theorem tw_33 {a0 : Array Value} {Z : State} (hw : ∀ d ∈ tables_1, d.before a0 Z = true) : (Jvm.Cond.initialized "java/lang/String").before a0 Z = true := hw _ (List.mem_of_getElem? (i := 33) rfl)
theorem tw_34 {a0 : Array Value} {Z : State} (hw : ∀ d ∈ tables_1, d.before a0 Z = true) : (Jvm.Cond.instantiable "java/lang/String" (4 : Nat)).before a0 Z = true := hw _ (List.mem_of_getElem? (i := 34) rfl)
theorem tw_35 {a0 : Array Value} {Z : State} (hw : ∀ d ∈ tables_1, d.before a0 Z = true) : (Jvm.Cond.arrayClass Jvm.ClassFile.FieldType.byte).before a0 Z = true := hw _ (List.mem_of_getElem? (i := 35) rfl)
theorem tw_36 {a0 : Array Value} {Z : State} (hw : ∀ d ∈ tables_1, d.before a0 Z = true) : (Jvm.Cond.laysFinal "java/lang/String" "java/lang/String" "value" "[B").before a0 Z = true := hw _ (List.mem_of_getElem? (i := 36) rfl)
theorem tw_37 {a0 : Array Value} {Z : State} (hw : ∀ d ∈ tables_1, d.before a0 Z = true) : (Jvm.Cond.laysFinal "java/lang/String" "java/lang/String" "coder" "B").before a0 Z = true := hw _ (List.mem_of_getElem? (i := 37) rfl)
theorem tw_38 {a0 : Array Value} {Z : State} (hw : ∀ d ∈ tables_1, d.before a0 Z = true) : (Jvm.Cond.soleField "java/lang/String" "value").before a0 Z = true := hw _ (List.mem_of_getElem? (i := 38) rfl)
theorem tw_39 {a0 : Array Value} {Z : State} (hw : ∀ d ∈ tables_1, d.before a0 Z = true) : (Jvm.Cond.soleField "java/lang/String" "coder").before a0 Z = true := hw _ (List.mem_of_getElem? (i := 39) rfl)
theorem own_strs {a0 : Array Value} {Z : State} (hw : ∀ d ∈ tables_1, d.before a0 Z = true) : ∀ a ∈ Bundle.stringAtoms, a.before a0 Z = true := by
  intro d hd
  simp only [Bundle.stringAtoms, List.mem_cons, List.not_mem_nil, or_false] at hd
  rcases hd with rfl | rfl | rfl | rfl | rfl | rfl | rfl
  all_goals first | exact tw_33 hw | exact tw_34 hw | exact tw_35 hw | exact tw_36 hw | exact tw_37 hw | exact tw_38 hw | exact tw_39 hw
theorem tw_32 {a0 : Array Value} {Z : State} (hw : ∀ d ∈ tables_1, d.before a0 Z = true) : (Jvm.Cond.stringLink "com/example/offer/offer/model/TransferState" (38 : Nat) "next").before a0 Z = true := hw _ (List.mem_of_getElem? (i := 32) rfl)
theorem d2_3 : decode prog_6_method_5_code 3 = .ok (.invokestatic 40, 3) := by decide +kernel
theorem tw_40 {a0 : Array Value} {Z : State} (hw : ∀ d ∈ tables_1, d.before a0 Z = true) : (Jvm.Cond.methodLink "com/example/offer/offer/model/TransferState" (40 : Nat) ({ cls := "java/util/Objects", name := "requireNonNull", desc := "(Ljava/lang/Object;Ljava/lang/String;)Ljava/lang/Object;" } : Jvm.MethodName)).before a0 Z = true := hw _ (List.mem_of_getElem? (i := 40) rfl)
theorem tw_43 {a0 : Array Value} {Z : State} (hw : ∀ d ∈ tables_1, d.before a0 Z = true) : (Jvm.Cond.code ({ cls := "java/util/Objects", name := "requireNonNull", desc := "(Ljava/lang/Object;Ljava/lang/String;)Ljava/lang/Object;" } : Jvm.MethodName) jdk_31_method_11_code (2 : Nat) (Option.some (Jvm.ClassFile.FieldType.object "java/lang/Object"))).before a0 Z = true := hw _ (List.mem_of_getElem? (i := 43) rfl)
theorem d3_0 : decode jdk_31_method_11_code 0 = .ok (.aload_n 0, 1) := by decide +kernel
theorem d3_1 : decode jdk_31_method_11_code 1 = .ok (.ifnonnull 12, 3) := by decide +kernel
theorem d3_13 : decode jdk_31_method_11_code 13 = .ok (.aload_n 0, 1) := by decide +kernel
theorem d3_14 : decode jdk_31_method_11_code 14 = .ok (.areturn, 1) := by decide +kernel
abbrev M_1 : MethodName := ⟨"java/util/Objects", "requireNonNull", "(Ljava/lang/Object;Ljava/lang/String;)Ljava/lang/Object;"⟩
theorem ef3_RR (m : MethodId) (x0 : Addr) (x1 : Addr) : entryFrame m #[(.ref x0), (.ref x1)] 2 = mkF m 0 #[.val (.ref x0), .val (.ref x1)] [] := by first | (simp [entryFrame, mkF, argsToLocals, Value.category]; done) | rfl
theorem pn_java_util_Objects : plainName "java/util/Objects" = true := by first | (simp [plainName, overriddenIn]; done) | decide +kernel
set_option maxRecDepth 65536 in
set_option maxHeartbeats 40000000 in
theorem rm3_51 (l : Launch) (Z : State) (a0 : Array Value) (hw : ∀ d ∈ tables_1, d.before a0 Z = true) (ws : List Jvm.Cond) (a_REQUESTED : Addr) (c0_a : Addr) (h0 : Heap) (n0 : Nat) (Z0 : n0 ≤ h0.size) :
    MetFree l M_1 (head1 (Jvm.Cond.code M_1 jdk_31_method_11_code 2 (some (.object "java/lang/Object")) :: ws) R_0_0_0_0) (fun a U => a = #[(.ref a_REQUESTED), (.ref c0_a)] ∧ Z.Warmed39 U.vm ∧ U.heap = h0) (fun _ _ _ _ _ => True) (fun _ U o U' => ∃ v L, o = .returned v ∧ QP (some (.ref a_REQUESTED)) h0 n0 v U'.heap L ∧ FrameEnd U o U' L R_0_0_0_0.cells R_0_0_0_0.slots) := by
  refine MetFree.of_bodySF (plainFor_of_name pn_java_util_Objects) hisR ?_
  intro p e s m args below meth c s₁ Bd hml0 hP hK
  obtain ⟨rfl, hZ, hh⟩ := hP
  have hx := Bd.exec
  have hby := Bd.bytes
  have hml : c.maxLocals = 2 := hml0
  have hown : s.vm.findClass "java/util/Objects" = some m.cls := findClass_of_methodNamed Bd.named
  have hnm := (name_of_methodNamed Bd.named Bd.method).1
  have X0 : Stand p l e R_0_0_0_0 s m #[(.ref a_REQUESTED), (.ref c0_a)] below meth c s₁ [] 0 0 := Stand.of_body Bd
  have e0 : s₁.heap = h0 := by rw [← hh, Bd.state]; rfl
  have N0 := Fr.nil n0
  obtain ⟨fs, hr, hrun, hended, hW, hsame⟩ := X0.leave (v := (some (.ref a_REQUESTED))) (fun h => by rw [Bd.returns] at h; cases h)
  refine ⟨_, _, castTop (ef3_RR m a_REQUESTED c0_a) ?_, hrun, hended, _, _, rfl, ?_, ⟨_, rfl⟩, hW, hsame.mono (by decide) (by decide)⟩
  · show Steps p.tables e below (s₁.setTop (mkF m 0 #[.val (.ref a_REQUESTED), .val (.ref c0_a)] [])) _
    refine XS.aloadN X0.here hx rfl (hb hby d3_0) rfl rfl ?_
    refine XS.ifnonnullYes X0.here hx rfl (pc0 := 1) (pc' := 13) rfl (hb hby d3_1) rfl (by decide) (by decide) ?_
    refine XS.aloadN X0.here hx rfl (hb hby d3_13) rfl rfl ?_
    show Steps p.tables e below (s₁.setTop (mkF m 14 #[.val (.ref a_REQUESTED), .val (.ref c0_a)] [(.ref a_REQUESTED)])) _
    jvm_step X0.here [X0.here.top, hx, (hb hby d3_14), X0.method', Bd.returns, Value.isRef, FieldType.isReference]
    first | (intro acts; rw [hr _ acts rfl rfl rfl]) | rw [hr _ _ rfl rfl rfl]
    exact Steps.refl _
  · show QP (some (.ref a_REQUESTED)) h0 n0 _ s₁.heap _
    rw [e0]
    exact ⟨rfl, N0, rfl⟩
theorem tw_42 {a0 : Array Value} {Z : State} (hw : ∀ d ∈ tables_1, d.before a0 Z = true) : (Jvm.Cond.initialized "java/util/Objects").before a0 Z = true := hw _ (List.mem_of_getElem? (i := 42) rfl)
theorem pd_1 : parseMethodDescriptor "(Ljava/lang/Object;Ljava/lang/String;)Ljava/lang/Object;" = some ⟨[(.object "java/lang/Object"), (.object "java/lang/String")], some (.object "java/lang/Object")⟩ := by decide +kernel
theorem tw_41 {a0 : Array Value} {Z : State} (hw : ∀ d ∈ tables_1, d.before a0 Z = true) : (Jvm.Cond.static ({ cls := "java/util/Objects", name := "requireNonNull", desc := "(Ljava/lang/Object;Ljava/lang/String;)Ljava/lang/Object;" } : Jvm.MethodName)).before a0 Z = true := hw _ (List.mem_of_getElem? (i := 41) rfl)
theorem d2_6 : decode prog_6_method_5_code 6 = .ok (.pop, 1) := by decide +kernel
theorem d2_7 : decode prog_6_method_5_code 7 = .ok (.aload_n 2, 1) := by decide +kernel
theorem d2_8 : decode prog_6_method_5_code 8 = .ok (.ldc 46, 2) := by decide +kernel
theorem tw_44 {a0 : Array Value} {Z : State} (hw : ∀ d ∈ tables_1, d.before a0 Z = true) : (Jvm.Cond.stringLink "com/example/offer/offer/model/TransferState" (46 : Nat) "by").before a0 Z = true := hw _ (List.mem_of_getElem? (i := 44) rfl)
theorem d2_10 : decode prog_6_method_5_code 10 = .ok (.invokestatic 40, 3) := by decide +kernel
set_option maxRecDepth 65536 in
set_option maxHeartbeats 40000000 in
theorem rm3_53 (l : Launch) (Z : State) (a0 : Array Value) (hw : ∀ d ∈ tables_1, d.before a0 Z = true) (ws : List Jvm.Cond) (a_CONSUMER : Addr) (c0_a : Addr) (h0 : Heap) (n0 : Nat) (Z0 : n0 ≤ h0.size) :
    MetFree l M_1 (head1 (Jvm.Cond.code M_1 jdk_31_method_11_code 2 (some (.object "java/lang/Object")) :: ws) R_0_0_0_0) (fun a U => a = #[(.ref a_CONSUMER), (.ref c0_a)] ∧ Z.Warmed39 U.vm ∧ U.heap = h0) (fun _ _ _ _ _ => True) (fun _ U o U' => ∃ v L, o = .returned v ∧ QP (some (.ref a_CONSUMER)) h0 n0 v U'.heap L ∧ FrameEnd U o U' L R_0_0_0_0.cells R_0_0_0_0.slots) := by
  refine MetFree.of_bodySF (plainFor_of_name pn_java_util_Objects) hisR ?_
  intro p e s m args below meth c s₁ Bd hml0 hP hK
  obtain ⟨rfl, hZ, hh⟩ := hP
  have hx := Bd.exec
  have hby := Bd.bytes
  have hml : c.maxLocals = 2 := hml0
  have hown : s.vm.findClass "java/util/Objects" = some m.cls := findClass_of_methodNamed Bd.named
  have hnm := (name_of_methodNamed Bd.named Bd.method).1
  have X0 : Stand p l e R_0_0_0_0 s m #[(.ref a_CONSUMER), (.ref c0_a)] below meth c s₁ [] 0 0 := Stand.of_body Bd
  have e0 : s₁.heap = h0 := by rw [← hh, Bd.state]; rfl
  have N0 := Fr.nil n0
  obtain ⟨fs, hr, hrun, hended, hW, hsame⟩ := X0.leave (v := (some (.ref a_CONSUMER))) (fun h => by rw [Bd.returns] at h; cases h)
  refine ⟨_, _, castTop (ef3_RR m a_CONSUMER c0_a) ?_, hrun, hended, _, _, rfl, ?_, ⟨_, rfl⟩, hW, hsame.mono (by decide) (by decide)⟩
  · show Steps p.tables e below (s₁.setTop (mkF m 0 #[.val (.ref a_CONSUMER), .val (.ref c0_a)] [])) _
    refine XS.aloadN X0.here hx rfl (hb hby d3_0) rfl rfl ?_
    refine XS.ifnonnullYes X0.here hx rfl (pc0 := 1) (pc' := 13) rfl (hb hby d3_1) rfl (by decide) (by decide) ?_
    refine XS.aloadN X0.here hx rfl (hb hby d3_13) rfl rfl ?_
    show Steps p.tables e below (s₁.setTop (mkF m 14 #[.val (.ref a_CONSUMER), .val (.ref c0_a)] [(.ref a_CONSUMER)])) _
    jvm_step X0.here [X0.here.top, hx, (hb hby d3_14), X0.method', Bd.returns, Value.isRef, FieldType.isReference]
    first | (intro acts; rw [hr _ acts rfl rfl rfl]) | rw [hr _ _ rfl rfl rfl]
    exact Steps.refl _
  · show QP (some (.ref a_CONSUMER)) h0 n0 _ s₁.heap _
    rw [e0]
    exact ⟨rfl, N0, rfl⟩
theorem d2_13 : decode prog_6_method_5_code 13 = .ok (.pop, 1) := by decide +kernel
theorem d2_14 : decode prog_6_method_5_code 14 = .ok (.aload_n 1, 1) := by decide +kernel
theorem d2_15 : decode prog_6_method_5_code 15 = .ok (.invokevirtual 48, 3) := by decide +kernel
theorem tw_45 {a0 : Array Value} {Z : State} (hw : ∀ d ∈ tables_1, d.before a0 Z = true) : (Jvm.Cond.methodLink "com/example/offer/offer/model/TransferState" (48 : Nat) ({ cls := "com/example/offer/offer/model/TransferState", name := "ordinal", desc := "()I" } : Jvm.MethodName)).before a0 Z = true := hw _ (List.mem_of_getElem? (i := 45) rfl)
theorem tw_51 {a0 : Array Value} {Z : State} (hw : ∀ d ∈ tables_1, d.before a0 Z = true) : (Jvm.Cond.code ({ cls := "java/lang/Enum", name := "ordinal", desc := "()I" } : Jvm.MethodName) jdk_37_method_2_code (1 : Nat) (Option.some Jvm.ClassFile.FieldType.int)).before a0 Z = true := hw _ (List.mem_of_getElem? (i := 51) rfl)
theorem d4_0 : decode jdk_37_method_2_code 0 = .ok (.aload_n 0, 1) := by decide +kernel
theorem d4_1 : decode jdk_37_method_2_code 1 = .ok (.getfield 7, 3) := by decide +kernel
theorem tw_52 {a0 : Array Value} {Z : State} (hw : ∀ d ∈ tables_1, d.before a0 Z = true) : (Jvm.Cond.fieldLink "java/lang/Enum" (7 : Nat) "java/lang/Enum" "ordinal" "I").before a0 Z = true := hw _ (List.mem_of_getElem? (i := 52) rfl)
theorem d4_4 : decode jdk_37_method_2_code 4 = .ok (.ireturn, 1) := by decide +kernel
abbrev M_2 : MethodName := ⟨"java/lang/Enum", "ordinal", "()I"⟩
theorem ef4_R (m : MethodId) (x0 : Addr) : entryFrame m #[(.ref x0)] 1 = mkF m 0 #[.val (.ref x0)] [] := by first | (simp [entryFrame, mkF, argsToLocals, Value.category]; done) | rfl
theorem pn_java_lang_Enum : plainName "java/lang/Enum" = true := by first | (simp [plainName, overriddenIn]; done) | decide +kernel
set_option maxRecDepth 65536 in
set_option maxHeartbeats 40000000 in
theorem rm4_54 (l : Launch) (Z : State) (a0 : Array Value) (hw : ∀ d ∈ tables_1, d.before a0 Z = true) (ws : List Jvm.Cond) (a_REQUESTED : Addr) (h0 : Heap) (n0 : Nat) (Z0 : n0 ≤ h0.size) (f1 : F_0 Z h0 a_REQUESTED (.int 0)) :
    MetFree l M_2 (head1 (Jvm.Cond.code M_2 jdk_37_method_2_code 1 (some .int) :: ws) R_0_0_0_0) (fun a U => a = #[(.ref a_REQUESTED)] ∧ Z.Warmed39 U.vm ∧ U.heap = h0) (fun _ _ _ _ _ => True) (fun _ U o U' => ∃ v L, o = .returned v ∧ QP (some (.int 0)) h0 n0 v U'.heap L ∧ FrameEnd U o U' L R_0_0_0_0.cells R_0_0_0_0.slots) := by
  refine MetFree.of_bodySF (plainFor_of_name pn_java_lang_Enum) hisR ?_
  intro p e s m args below meth c s₁ Bd hml0 hP hK
  obtain ⟨rfl, hZ, hh⟩ := hP
  have hx := Bd.exec
  have hby := Bd.bytes
  have hml : c.maxLocals = 1 := hml0
  have hown : s.vm.findClass "java/lang/Enum" = some m.cls := findClass_of_methodNamed Bd.named
  have hnm := (name_of_methodNamed Bd.named Bd.method).1
  have X0 : Stand p l e R_0_0_0_0 s m #[(.ref a_REQUESTED)] below meth c s₁ [] 0 0 := Stand.of_body Bd
  have e0 : s₁.heap = h0 := by rw [← hh, Bd.state]; rfl
  have N0 := Fr.nil n0
  obtain ⟨T1, X1, e1, st1⟩ := getF X0 hx hZ hown (host := "") (Or.inl (tw_52 hw)) Via.refl e0 f1 (g := (mkF m 1 #[.val (.ref a_REQUESTED)] [(.ref a_REQUESTED)])) rfl rfl (hb hby d4_1)
  obtain ⟨fs, hr, hrun, hended, hW, hsame⟩ := X1.leave (v := (some (.int 0))) (fun h => by rw [Bd.returns] at h; cases h)
  refine ⟨_, _, castTop (ef4_R m a_REQUESTED) ?_, hrun, hended, _, _, rfl, ?_, ⟨_, rfl⟩, hW, hsame.mono (by decide) (by decide)⟩
  · show Steps p.tables e below (s₁.setTop (mkF m 0 #[.val (.ref a_REQUESTED)] [])) _
    refine XS.aloadN X0.here hx rfl (hb hby d4_0) rfl rfl ?_
    show Steps p.tables e below (s₁.setTop (mkF m 1 #[.val (.ref a_REQUESTED)] [(.ref a_REQUESTED)])) _
    refine st1 _ ?_
    show Steps p.tables e below (T1.setTop (mkF m 4 #[.val (.ref a_REQUESTED)] [(.int 0)])) _
    exact retI X1 hx Bd.returns (hb hby d4_4) hr
  · show QP (some (.int 0)) h0 n0 _ T1.heap _
    rw [e1]
    exact ⟨rfl, N0, rfl⟩
theorem tw_50 {a0 : Array Value} {Z : State} (hw : ∀ d ∈ tables_1, d.before a0 Z = true) : (Jvm.Cond.initialized "java/lang/Enum").before a0 Z = true := hw _ (List.mem_of_getElem? (i := 50) rfl)
theorem pd_2 : parseMethodDescriptor "()I" = some ⟨[], some .int⟩ := by decide +kernel
theorem tw_49 {a0 : Array Value} {Z : State} (hw : ∀ d ∈ tables_1, d.before a0 Z = true) : (Jvm.Cond.selects "com/example/offer/offer/model/TransferState" ({ cls := "com/example/offer/offer/model/TransferState", name := "ordinal", desc := "()I" } : Jvm.MethodName) ({ cls := "java/lang/Enum", name := "ordinal", desc := "()I" } : Jvm.MethodName)).before a0 Z = true := hw _ (List.mem_of_getElem? (i := 49) rfl)
abbrev M_3 : MethodName := ⟨"com/example/offer/offer/model/TransferState", "ordinal", "()I"⟩
theorem tw_46 {a0 : Array Value} {Z : State} (hw : ∀ d ∈ tables_1, d.before a0 Z = true) : (Jvm.Cond.sameMethod "com/example/offer/offer/model/TransferState" "java/lang/Enum" "ordinal" "()I").before a0 Z = true := hw _ (List.mem_of_getElem? (i := 46) rfl)
theorem tw_47 {a0 : Array Value} {Z : State} (hw : ∀ d ∈ tables_1, d.before a0 Z = true) : (Jvm.Cond.declares ({ cls := "java/lang/Enum", name := "ordinal", desc := "()I" } : Jvm.MethodName)).before a0 Z = true := hw _ (List.mem_of_getElem? (i := 47) rfl)
theorem tw_48 {a0 : Array Value} {Z : State} (hw : ∀ d ∈ tables_1, d.before a0 Z = true) : (Jvm.Cond.instanceMethod ({ cls := "java/lang/Enum", name := "ordinal", desc := "()I" } : Jvm.MethodName)).before a0 Z = true := hw _ (List.mem_of_getElem? (i := 48) rfl)
theorem d2_18 : decode prog_6_method_5_code 18 = .ok (.tableswitch 34 0 4 #[44, 48, 77, 77, 92], 34) := by decide +kernel
theorem d2_62 : decode prog_6_method_5_code 62 = .ok (.iconst 0, 1) := by decide +kernel
theorem d2_63 : decode prog_6_method_5_code 63 = .ok (.goto 59, 3) := by decide +kernel
theorem d2_122 : decode prog_6_method_5_code 122 = .ok (.ireturn, 1) := by decide +kernel
abbrev R_1_4_32_13 : Room := { frames := 1, cells := 4, slots := 32, locals := 13 }
abbrev M_4 : MethodName := ⟨"com/example/offer/offer/model/TransferState", "canMoveTo", "(Lcom/example/offer/offer/model/TransferState;Lcom/example/offer/offer/model/Role;)Z"⟩
theorem ef2_RRR (m : MethodId) (x0 : Addr) (x1 : Addr) (x2 : Addr) : entryFrame m #[(.ref x0), (.ref x1), (.ref x2)] 3 = mkF m 0 #[.val (.ref x0), .val (.ref x1), .val (.ref x2)] [] := by first | (simp [entryFrame, mkF, argsToLocals, Value.category]; done) | rfl
def Q2_56 (Z : State)  (h0 : Heap) (n0 : Nat) (v : Option Value) (h : Heap) (L : List Loc) : Prop := v = (some (.int 0)) ∧ Fr n0 L ∧ Keep h0 h []
set_option maxRecDepth 65536 in
set_option maxHeartbeats 40000000 in
theorem rm2_55 (l : Launch) (Z : State) (a0 : Array Value) (hw : ∀ d ∈ tables_1, d.before a0 Z = true) (ws : List Jvm.Cond) (a_COMPLETED : Addr) (a_REQUESTED : Addr) (a_CONSUMER : Addr) (h0 : Heap) (n0 : Nat) (Z0 : n0 ≤ h0.size) (f1 : F_0 Z h0 a_REQUESTED (.int 0)) (f2 : E_0 Z h0 a_REQUESTED) :
    MetFree l M_4 (head1 (Jvm.Cond.code M_4 prog_6_method_5_code 3 (some .boolean) :: ws) R_1_4_32_13) (fun a U => a = #[(.ref a_COMPLETED), (.ref a_REQUESTED), (.ref a_CONSUMER)] ∧ Z.Warmed39 U.vm ∧ U.heap = h0) (fun _ _ _ _ _ => True) (fun _ U o U' => ∃ v L, o = .returned v ∧ Q2_56 Z  h0 n0 v U'.heap L ∧ ReturnedEndW U o U' L R_1_4_32_13.cells R_1_4_32_13.slots) := by
  refine MetFree.of_bodySF (plainFor_of_name pn_com_example_offer_offer_model_TransferState) hisR ?_
  intro p e s m args below meth c s₁ Bd hml0 hP hK
  obtain ⟨rfl, hZ, hh⟩ := hP
  have hx := Bd.exec
  have hby := Bd.bytes
  have hml : c.maxLocals = 3 := hml0
  have hown : s.vm.findClass "com/example/offer/offer/model/TransferState" = some m.cls := findClass_of_methodNamed Bd.named
  have hnm := (name_of_methodNamed Bd.named Bd.method).1
  have X0 : Stand p l e R_1_4_32_13 s m #[(.ref a_COMPLETED), (.ref a_REQUESTED), (.ref a_CONSUMER)] below meth c s₁ [] 0 0 := Stand.of_body Bd
  have e0 : s₁.heap = h0 := by rw [← hh, Bd.state]; rfl
  have N0 := Fr.nil n0
  obtain ⟨ax50, T1, h1, kz1, X1, e1, E1, hS1, hk1, hZ1, hown1, st1⟩ := ldcS (s := s) (vm0 := s.vm) X0 hx hZ hown (tw_32 hw) (own_strs hw) e0 ((State.WarmedH.refl s).since 0) (Nat.zero_le _) (g := (mkF m 1 #[.val (.ref a_COMPLETED), .val (.ref a_REQUESTED), .val (.ref a_CONSUMER)] [(.ref a_REQUESTED)])) rfl (hb hby d2_1) (n := 16) (by decide) (by decide) (by decide) (by decide)
  have KK1 : Keep h0 h1 [] := (Keep.refl h0 []).ext E1
  -- pc 3: java/util/Objects.requireNonNull
  obtain ⟨_, _, ⟨T2, L2, k2, n2⟩, -, X2, ⟨Lc2, hQ2, l2, y2, z2⟩, st2⟩ := Jvm.LawKit.callS X1 hx (y := M_1) hown1 (mvT hZ1 (tw_40 hw)) (mvT hZ1 (tw_41 hw)) (mvT hZ1 (tw_42 hw)) (mvT hZ1 (tw_43 hw)) (by decide) (backOf (W := 0) (rm3_51 l Z a0 hw [] a_REQUESTED ax50 h1 n0 (Nat.le_trans Z0 KK1.1) ) hZ1 (tw_43 hw) (tw_42 hw) (by decide) (by decide)) (g := (mkF m 3 #[.val (.ref a_COMPLETED), .val (.ref a_REQUESTED), .val (.ref a_CONSUMER)] [(.ref ax50), (.ref a_REQUESTED)])) rfl (by rw [hml]; rfl) (argsL := [(.ref a_REQUESTED), (.ref ax50)]) (rest := []) (lenOf pd_1 rfl) rfl (by show 2 * 0 + _ ≤ _; exact Nat.le_of_eq rfl) (hb hby d2_3) (fun _ _ => ⟨rfl, e1, (by decide : 2 + 0 ≤ _), (by decide : 20 + 0 ≤ _)⟩)
  dsimp only [Pt.U, Pt.locs, Pt.cells, Pt.slots] at X2 l2 y2 z2 st2 hQ2
  subst l2 y2 z2
  obtain ⟨rfl, Nq2, e2⟩ := hQ2
  have N2 := Fr.app N0 Nq2
  obtain ⟨ax52, T3, h3, kz3, X3, e3, E3, hS3, hk3, hZ3, hown3, st3⟩ := ldcS (s := s) (vm0 := T1.vm) X2 hx hZ1 hown1 (tw_44 hw) (own_strs hw) e2 hS1 hk1 (g := (mkF m 8 #[.val (.ref a_COMPLETED), .val (.ref a_REQUESTED), .val (.ref a_CONSUMER)] [(.ref a_CONSUMER)])) rfl (hb hby d2_8) (n := 8) (by decide) (by decide) (by decide) (by decide)
  have KK3 : Keep h0 h3 [] := KK1.ext E3
  -- pc 10: java/util/Objects.requireNonNull
  obtain ⟨_, _, ⟨T4, L4, k4, n4⟩, -, X4, ⟨Lc4, hQ4, l4, y4, z4⟩, st4⟩ := Jvm.LawKit.callS X3 hx (y := M_1) hown3 (mvT hZ3 (tw_40 hw)) (mvT hZ3 (tw_41 hw)) (mvT hZ3 (tw_42 hw)) (mvT hZ3 (tw_43 hw)) (by decide) (backOf (W := 0) (rm3_53 l Z a0 hw [] a_CONSUMER ax52 h3 n0 (Nat.le_trans Z0 KK3.1) ) hZ3 (tw_43 hw) (tw_42 hw) (by decide) (by decide)) (g := (mkF m 10 #[.val (.ref a_COMPLETED), .val (.ref a_REQUESTED), .val (.ref a_CONSUMER)] [(.ref ax52), (.ref a_CONSUMER)])) rfl (by rw [hml]; rfl) (argsL := [(.ref a_CONSUMER), (.ref ax52)]) (rest := []) (lenOf pd_1 rfl) rfl (by show 2 * 0 + _ ≤ _; exact Nat.le_of_eq rfl) (hb hby d2_10) (fun _ _ => ⟨rfl, e3, (by decide : 4 + 0 ≤ _), (by decide : 32 + 0 ≤ _)⟩)
  dsimp only [Pt.U, Pt.locs, Pt.cells, Pt.slots] at X4 l4 y4 z4 st4 hQ4
  subst l4 y4 z4
  obtain ⟨rfl, Nq4, e4⟩ := hQ4
  have N4 := Fr.app N2 Nq4
  -- pc 15: java/lang/Enum.ordinal
  have u5 : F_0 Z h1 a_REQUESTED (.int 0) := Fld.ext E1 f1
  have u6 : F_0 Z h3 a_REQUESTED (.int 0) := Fld.ext E3 u5
  have u8 : E_0 Z h1 a_REQUESTED := Exa.ext E1 f2
  have u9 : E_0 Z h3 a_REQUESTED := Exa.ext E3 u8
  obtain ⟨cq7, kq7, q7a, q7b, q7c⟩ := isOf hZ3 e4 u9
  obtain ⟨_, _, ⟨T7, L7, k7, n7⟩, -, X7, ⟨Lc7, hQ7, l7, y7, z7⟩, st7⟩ := X4.virtualBackUp hx (x := M_3) (y := M_2) (owner := "java/lang/Enum") hown3 (mvT hZ3 (tw_45 hw)) (mvT hZ3 (tw_46 hw)) (mvT hZ3 (tw_47 hw)) (by decide) (mvT hZ3 (tw_49 hw)) (mvT hZ3 (tw_48 hw)) (backOf (W := 0) (rm4_54 l Z a0 hw [] a_REQUESTED h3 n0 (Nat.le_trans Z0 KK3.1) u6) hZ3 (tw_51 hw) (tw_50 hw) (by decide) (by decide)) q7a q7c (g := (mkF m 15 #[.val (.ref a_COMPLETED), .val (.ref a_REQUESTED), .val (.ref a_CONSUMER)] [(.ref a_REQUESTED)])) rfl (by rw [hml]; rfl) (Steps.refl _) (argsL := []) (rest := []) (lenOf pd_2 rfl) rfl (by show 2 * 0 + _ ≤ _; exact Nat.le_of_eq rfl) (hb hby d2_15) (fun _ _ => ⟨rfl, e4, (by decide : 4 + 0 ≤ _), (by decide : 32 + 0 ≤ _)⟩)
  dsimp only [Pt.U, Pt.locs, Pt.cells, Pt.slots] at X7 l7 y7 z7 st7 hQ7
  subst l7 y7 z7
  obtain ⟨rfl, Nq7, e7⟩ := hQ7
  have N7 := Fr.app N4 Nq7
  obtain ⟨fs, hr, hrun, hended, hRE⟩ := X7.leaveW hS3 (by rw [e7]; exact hk3) (v := (some (.int 0))) (fun h => by rw [Bd.returns] at h; cases h)
  refine ⟨_, _, castTop (ef2_RRR m a_COMPLETED a_REQUESTED a_CONSUMER) ?_, hrun, hended, _, _, rfl, ?_, hRE.1, hRE.2.1, hRE.2.2.1, hRE.2.2.2.mono (by decide) (by decide)⟩
  · show Steps p.tables e below (s₁.setTop (mkF m 0 #[.val (.ref a_COMPLETED), .val (.ref a_REQUESTED), .val (.ref a_CONSUMER)] [])) _
    refine XS.aloadN X0.here hx rfl (hb hby d2_0) rfl rfl ?_
    show Steps p.tables e below (s₁.setTop (mkF m 1 #[.val (.ref a_COMPLETED), .val (.ref a_REQUESTED), .val (.ref a_CONSUMER)] [(.ref a_REQUESTED)])) _
    refine st1 _ ?_
    show Steps p.tables e below (T1.setTop (mkF m 3 #[.val (.ref a_COMPLETED), .val (.ref a_REQUESTED), .val (.ref a_CONSUMER)] [(.ref ax50), (.ref a_REQUESTED)])) _
    refine st2 _ ?_
    refine XS.pop X2.here hx rfl (hb hby d2_6) rfl rfl ?_
    refine XS.aloadN X2.here hx rfl (hb hby d2_7) rfl rfl ?_
    show Steps p.tables e below (T2.setTop (mkF m 8 #[.val (.ref a_COMPLETED), .val (.ref a_REQUESTED), .val (.ref a_CONSUMER)] [(.ref a_CONSUMER)])) _
    refine st3 _ ?_
    show Steps p.tables e below (T3.setTop (mkF m 10 #[.val (.ref a_COMPLETED), .val (.ref a_REQUESTED), .val (.ref a_CONSUMER)] [(.ref ax52), (.ref a_CONSUMER)])) _
    refine st4 _ ?_
    refine XS.pop X4.here hx rfl (hb hby d2_13) rfl rfl ?_
    refine XS.aloadN X4.here hx rfl (hb hby d2_14) rfl rfl ?_
    show Steps p.tables e below (T4.setTop (mkF m 15 #[.val (.ref a_COMPLETED), .val (.ref a_REQUESTED), .val (.ref a_CONSUMER)] [(.ref a_REQUESTED)])) _
    refine st7.trans ?_
    show Steps p.tables e below (T7.setTop (mkF m 18 #[.val (.ref a_COMPLETED), .val (.ref a_REQUESTED), .val (.ref a_CONSUMER)] [(.int 0)])) _
    refine XS.tswIn X7.here hx rfl (pc0 := 18) (pc' := 62) (o := 44) rfl (hb hby d2_18) rfl (by decide) (by decide) (by decide) (by decide) ?_
    refine XS.iconst X7.here hx rfl (hb hby d2_62) ?_
    refine XS.goto X7.here hx rfl (pc0 := 63) (pc' := 122) rfl (hb hby d2_63) (by decide) (by decide) ?_
    show Steps p.tables e below (T7.setTop (mkF m 122 #[.val (.ref a_COMPLETED), .val (.ref a_REQUESTED), .val (.ref a_CONSUMER)] [(.int 0)])) _
    exact retN X7 hx (t := .boolean) Bd.returns (by simp) (hb hby d2_122) hr
  · show Q2_56 Z  h0 n0 _ T7.heap _
    rw [e7]
    exact ⟨rfl, N7, KK3⟩
theorem pd_3 : parseMethodDescriptor "(Lcom/example/offer/offer/model/TransferState;Lcom/example/offer/offer/model/Role;)Z" = some ⟨[(.object "com/example/offer/offer/model/TransferState"), (.object "com/example/offer/offer/model/Role")], some .boolean⟩ := by decide +kernel
theorem tw_30 {a0 : Array Value} {Z : State} (hw : ∀ d ∈ tables_1, d.before a0 Z = true) : (Jvm.Cond.selects "com/example/offer/offer/model/TransferState" ({ cls := "com/example/offer/offer/model/TransferState", name := "canMoveTo", desc := "(Lcom/example/offer/offer/model/TransferState;Lcom/example/offer/offer/model/Role;)Z" } : Jvm.MethodName) ({ cls := "com/example/offer/offer/model/TransferState", name := "canMoveTo", desc := "(Lcom/example/offer/offer/model/TransferState;Lcom/example/offer/offer/model/Role;)Z" } : Jvm.MethodName)).before a0 Z = true := hw _ (List.mem_of_getElem? (i := 30) rfl)
theorem tw_28 {a0 : Array Value} {Z : State} (hw : ∀ d ∈ tables_1, d.before a0 Z = true) : (Jvm.Cond.declares ({ cls := "com/example/offer/offer/model/TransferState", name := "canMoveTo", desc := "(Lcom/example/offer/offer/model/TransferState;Lcom/example/offer/offer/model/Role;)Z" } : Jvm.MethodName)).before a0 Z = true := hw _ (List.mem_of_getElem? (i := 28) rfl)
theorem tw_29 {a0 : Array Value} {Z : State} (hw : ∀ d ∈ tables_1, d.before a0 Z = true) : (Jvm.Cond.instanceMethod ({ cls := "com/example/offer/offer/model/TransferState", name := "canMoveTo", desc := "(Lcom/example/offer/offer/model/TransferState;Lcom/example/offer/offer/model/Role;)Z" } : Jvm.MethodName)).before a0 Z = true := hw _ (List.mem_of_getElem? (i := 29) rfl)
set_option maxRecDepth 65536 in
set_option maxHeartbeats 40000000 in
theorem rm0_57 (l : Launch) (Z : State) (a0 : Array Value) (hw : ∀ d ∈ tables_1, d.before a0 Z = true) (ws : List Jvm.Cond) (p0 : Int32) (p1 : Int32) (p2 : Int32) (a_REQUESTED : Addr) (a_STARTED : Addr) (a_SUSPENDED : Addr) (a_COMPLETED : Addr) (a_TERMINATED : Addr) (a_CONSUMER : Addr) (h0 : Heap) (n0 : Nat) (Z0 : n0 ≤ h0.size) (f1 : S_0 Z h0 (.ref a_REQUESTED)) (f2 : E_0 Z h0 a_REQUESTED) (f3 : S_1 Z h0 (.ref a_STARTED)) (f4 : E_0 Z h0 a_STARTED) (f5 : S_2 Z h0 (.ref a_SUSPENDED)) (f6 : E_0 Z h0 a_SUSPENDED) (f7 : S_3 Z h0 (.ref a_COMPLETED)) (f8 : E_0 Z h0 a_COMPLETED) (f9 : S_4 Z h0 (.ref a_TERMINATED)) (f10 : E_0 Z h0 a_TERMINATED) (f11 : ((p0 &&& (2147483647 : Int32)) % (5 : Int32)) = (3 : Int32)) (f12 : ((p1 &&& (2147483647 : Int32)) % (5 : Int32)) = (0 : Int32)) (f13 : (p2 &&& (1 : Int32)) = (0 : Int32)) (f14 : S_5 Z h0 (.ref a_CONSUMER)) (f15 : F_0 Z h0 a_REQUESTED (.int 0)) :
    MetFree l x (head1 (Jvm.Cond.code x code maxLocals ret :: ws) room_1) (fun a U => a = #[(.int p0), (.int p1), (.int p2)] ∧ Z.Warmed39 U.vm ∧ U.heap = h0) (fun _ _ _ _ _ => True) (fun _ U o U' => ∃ v L, o = .returned v ∧ QT n0 v U'.heap L ∧ ReturnedEndW U o U' L room_1.cells room_1.slots) := by
  refine MetFree.of_bodySF (plainFor_of_name pn_com_example_offer_offer_model_TransferStateIsFinalPinLaw) hisR ?_
  intro p e s m args below meth c s₁ Bd hml0 hP hK
  obtain ⟨rfl, hZ, hh⟩ := hP
  have hx := Bd.exec
  have hby := Bd.bytes
  have hml : c.maxLocals = 10 := hml0
  have hown : s.vm.findClass "com/example/offer/offer/model/TransferStateIsFinalPinLaw" = some m.cls := findClass_of_methodNamed Bd.named
  have hnm := (name_of_methodNamed Bd.named Bd.method).1
  have X0 : Stand p l e room_1 s m #[(.int p0), (.int p1), (.int p2)] below meth c s₁ [] 0 0 := Stand.of_body Bd
  have e0 : s₁.heap = h0 := by rw [← hh, Bd.state]; rfl
  have N0 := Fr.nil n0
  obtain ⟨T1, h1, L1, b47, kc48, X1, e1, N1, K1, le_b47, o1_0, o1_1, st1⟩ := sg0_25 p0 p1 p2 a_REQUESTED a_STARTED a_SUSPENDED a_COMPLETED a_TERMINATED X0 hx hZ hw hby hml hown e0 N0 Z0 f1 f2 f3 f4 f5 f6 f7 f8 f9 f10
  have sz_b47 : h0.size ≤ b47 := Nat.le_trans (Nat.le_refl _) le_b47
  have g_b47 : n0 ≤ b47 := Nat.le_trans Z0 sz_b47
  have KK1 : Keep h0 h1 [] := (Keep.refl h0 []).trans K1 (fun x hx => nomatch hx)
  have u2 : S_5 Z h1 (.ref a_CONSUMER) := own_sta_keep f14 K1 (fun _ q => nomatch q)
  obtain ⟨T3, X3, e3, st3⟩ := getS2 X1 hx hZ hown (host := "") (Or.inl (tw_15 hw)) Via.refl e1 u2 (g := (mkF m 63 #[.val (.int p0), .val (.int p1), .val (.int p2), .val (.ref b47), .val (.int 3), .val (.int 0), .unset, .unset, .unset, .unset] [])) rfl (hb hby at_63)
  have va4 := o1_0
  obtain ⟨cl4, Ar4, -, S4, -, H4, -⟩ := va4
  have hin4 : ¬ ((3 : Int32) < 0 ∨ cl4.slots.size ≤ ((3 : Int32)).toNatClampNeg) := inb_of S4 ⟨by decide, by decide⟩
  have hat4 : cl4.slots[((3 : Int32)).toNatClampNeg]? = some (.ref a_COMPLETED) := H4 _ (Nat.lt_of_not_le fun y => hin4 (Or.inr y))
  -- pc 76: com/example/offer/offer/model/TransferState.isFinal
  have u5 : S_3 Z h1 (.ref a_COMPLETED) := own_sta_keep f7 K1 (fun _ q => nomatch q)
  have u7 : E_0 Z h1 a_COMPLETED := Exa.keep f8 K1
  obtain ⟨cq6, kq6, q6a, q6b, q6c⟩ := isOf hZ e3 u7
  obtain ⟨_, _, ⟨T6, L6, k6, n6⟩, -, X6, ⟨Lc6, hQ6, l6, y6, z6⟩, st6⟩ := X3.virtualBack hx (y := M_0) (z := M_0) hown (mvT hZ (tw_18 hw)) (mvT hZ (tw_19 hw)) (notFace_of_selects (args := #[]) (mvT hZ (tw_21 hw))) (mvT hZ (tw_21 hw)) (mvT hZ (tw_20 hw)) (by decide) (backOf (W := 0) (rm1_49 l Z a0 hw [] a_COMPLETED h1 n0 (Nat.le_trans Z0 KK1.1) u5) hZ (tw_22 hw) (tw_3 hw) (by decide) (by decide)) q6a q6c (g := (mkF m 76 #[.val (.int p0), .val (.int p1), .val (.int p2), .val (.ref b47), .val (.int 3), .val (.int 0), .val (.ref a_CONSUMER), .val (.ref a_COMPLETED), .unset, .unset] [(.ref a_COMPLETED)])) rfl (by rw [hml]; rfl) (Steps.refl _) (argsL := []) (rest := []) (lenOf pd_0 rfl) rfl (by show 2 * 0 + _ ≤ _; exact Nat.le_of_eq rfl) (hb hby at_76) (fun _ _ => ⟨rfl, e3, (by decide : 1 + 0 ≤ _), (by decide : 5 + 0 ≤ _)⟩)
  dsimp only [Pt.U, Pt.locs, Pt.cells, Pt.slots] at X6 l6 y6 z6 st6 hQ6
  subst l6 y6 z6
  obtain ⟨rfl, Nq6, e6⟩ := hQ6
  have N6 := Fr.app N1 Nq6
  have va8 := o1_0
  obtain ⟨cl8, Ar8, -, S8, -, H8, -⟩ := va8
  have hin8 : ¬ ((0 : Int32) < 0 ∨ cl8.slots.size ≤ ((0 : Int32)).toNatClampNeg) := inb_of S8 ⟨by decide, by decide⟩
  have hat8 : cl8.slots[((0 : Int32)).toNatClampNeg]? = some (.ref a_REQUESTED) := H8 _ (Nat.lt_of_not_le fun y => hin8 (Or.inr y))
  -- pc 116: com/example/offer/offer/model/TransferState.canMoveTo
  have u9 : F_0 Z h1 a_REQUESTED (.int 0) := Fld.keep f15 K1 List.not_mem_nil
  have u10 : E_0 Z h1 a_REQUESTED := Exa.keep f2 K1
  obtain ⟨cq11, kq11, q11a, q11b, q11c⟩ := isOf hZ e6 u7
  obtain ⟨_, _, ⟨T11, L11, k11, n11⟩, -, X11, hS11, hg11, ⟨Lc11, hQ11, l11, y11, z11⟩, st11⟩ := X6.virtualBackS hx (y := M_4) (z := M_4) hown (mvT hZ (tw_27 hw)) (mvT hZ (tw_28 hw)) (notFace_of_selects (args := #[]) (mvT hZ (tw_30 hw))) (mvT hZ (tw_30 hw)) (mvT hZ (tw_29 hw)) (by decide) (backOfS (W := 0) (rm2_55 l Z a0 hw [] a_COMPLETED a_REQUESTED a_CONSUMER h1 n0 (Nat.le_trans Z0 KK1.1) u9 u10) hZ (tw_31 hw) (tw_3 hw) (by decide) (by decide)) q11a q11c (g := (mkF m 116 #[.val (.int p0), .val (.int p1), .val (.int p2), .val (.ref b47), .val (.int 3), .val (.int 0), .val (.ref a_CONSUMER), .val (.ref a_COMPLETED), .val (.int 1), .val (.int 1)] [(.ref a_CONSUMER), (.ref a_REQUESTED), (.ref a_COMPLETED)])) rfl (by rw [hml]; rfl) (Steps.refl _) (argsL := [(.ref a_REQUESTED), (.ref a_CONSUMER)]) (rest := []) (lenOf pd_3 rfl) rfl (by show 2 * 0 + _ ≤ _; exact Nat.le_of_eq rfl) (hb hby at_116) (fun _ _ => ⟨rfl, e6, (by decide : 1 + 4 ≤ _), (by decide : 5 + 32 ≤ _)⟩)
  dsimp only [Pt.U, Pt.locs, Pt.cells, Pt.slots] at X11 l11 y11 z11 st11 hQ11 hS11 hg11
  subst l11 y11 z11
  have hZ11 : Z.Warmed39 (s.setVm T11.vm).vm := State.Warmed39.trans hZ hS11.1
  have hown11 : (s.setVm T11.vm).vm.findClass "com/example/offer/offer/model/TransferStateIsFinalPinLaw" = some m.cls := by rw [show (s.setVm T11.vm).vm = T11.vm from rfl, hS11.1.alike.findClass]; exact hown
  obtain ⟨rfl, Nq11, K11⟩ := hQ11
  have N11 := Fr.app N6 Nq11
  have KK11 : Keep h0 T11.heap [] := KK1.trans K11 (fun x hx => nomatch hx)
  obtain ⟨fs, hr, hrun, hended, hRE⟩ := X11.leaveW hS11 (by exact (Nat.le_refl _)) (v := (some (.int 1))) (fun h => by rw [Bd.returns] at h; cases h)
  refine ⟨_, _, castTop (ef0_III m p0 p1 p2) ?_, hrun, hended, _, _, rfl, ?_, hRE.1, hRE.2.1, hRE.2.2.1, hRE.2.2.2.mono (by decide) (by decide)⟩
  · show Steps p.tables e below (s₁.setTop (mkF m 0 #[.val (.int p0), .val (.int p1), .val (.int p2), .unset, .unset, .unset, .unset, .unset, .unset, .unset] [])) _
    refine st1 _ ?_
    refine XS.iloadN X1.here hx rfl (hb hby at_35) rfl ?_
    show Steps p.tables e below (T1.setTop (mkF m 36 #[.val (.int p0), .val (.int p1), .val (.int p2), .val (.ref b47), .unset, .unset, .unset, .unset, .unset, .unset] [(.int p0)])) _
    refine X1.ldcInt hx hown (mvT hZ (tw_14 hw)) (g := (mkF m 36 #[.val (.int p0), .val (.int p1), .val (.int p2), .val (.ref b47), .unset, .unset, .unset, .unset, .unset, .unset] [(.int p0)])) rfl (hb hby at_36) _ ?_
    show Steps p.tables e below (T1.setTop (mkF m 38 #[.val (.int p0), .val (.int p1), .val (.int p2), .val (.ref b47), .unset, .unset, .unset, .unset, .unset, .unset] [(.int 2147483647), (.int p0)])) _
    refine XS.iand X1.here hx rfl (hb hby at_38) rfl ?_
    refine XS.iconst X1.here hx rfl (hb hby at_39) ?_
    show Steps p.tables e below (T1.setTop (mkF m 40 #[.val (.int p0), .val (.int p1), .val (.int p2), .val (.ref b47), .unset, .unset, .unset, .unset, .unset, .unset] [(.int 5), (.int (p0 &&& (2147483647 : Int32)))])) _
    refine iremM X1 hx rfl (hb hby at_40) rfl (by decide) ?_
    show Steps p.tables e below (T1.setTop (mkF m 41 #[.val (.int p0), .val (.int p1), .val (.int p2), .val (.ref b47), .unset, .unset, .unset, .unset, .unset, .unset] [(.int ((p0 &&& (2147483647 : Int32)) % (5 : Int32)))])) _
    rw [f11]
    refine XS.istore X1.here hx rfl (hb hby at_41) rfl (l' := #[.val (.int p0), .val (.int p1), .val (.int p2), .val (.ref b47), .val (.int 3), .unset, .unset, .unset, .unset, .unset]) rfl ?_
    refine XS.iloadN X1.here hx rfl (hb hby at_43) rfl ?_
    show Steps p.tables e below (T1.setTop (mkF m 44 #[.val (.int p0), .val (.int p1), .val (.int p2), .val (.ref b47), .val (.int 3), .unset, .unset, .unset, .unset, .unset] [(.int p1)])) _
    refine X1.ldcInt hx hown (mvT hZ (tw_14 hw)) (g := (mkF m 44 #[.val (.int p0), .val (.int p1), .val (.int p2), .val (.ref b47), .val (.int 3), .unset, .unset, .unset, .unset, .unset] [(.int p1)])) rfl (hb hby at_44) _ ?_
    show Steps p.tables e below (T1.setTop (mkF m 46 #[.val (.int p0), .val (.int p1), .val (.int p2), .val (.ref b47), .val (.int 3), .unset, .unset, .unset, .unset, .unset] [(.int 2147483647), (.int p1)])) _
    refine XS.iand X1.here hx rfl (hb hby at_46) rfl ?_
    refine XS.iconst X1.here hx rfl (hb hby at_47) ?_
    show Steps p.tables e below (T1.setTop (mkF m 48 #[.val (.int p0), .val (.int p1), .val (.int p2), .val (.ref b47), .val (.int 3), .unset, .unset, .unset, .unset, .unset] [(.int 5), (.int (p1 &&& (2147483647 : Int32)))])) _
    refine iremM X1 hx rfl (hb hby at_48) rfl (by decide) ?_
    show Steps p.tables e below (T1.setTop (mkF m 49 #[.val (.int p0), .val (.int p1), .val (.int p2), .val (.ref b47), .val (.int 3), .unset, .unset, .unset, .unset, .unset] [(.int ((p1 &&& (2147483647 : Int32)) % (5 : Int32)))])) _
    rw [f12]
    refine XS.istore X1.here hx rfl (hb hby at_49) rfl (l' := #[.val (.int p0), .val (.int p1), .val (.int p2), .val (.ref b47), .val (.int 3), .val (.int 0), .unset, .unset, .unset, .unset]) rfl ?_
    refine XS.iloadN X1.here hx rfl (hb hby at_51) rfl ?_
    refine XS.iconst X1.here hx rfl (hb hby at_52) ?_
    show Steps p.tables e below (T1.setTop (mkF m 53 #[.val (.int p0), .val (.int p1), .val (.int p2), .val (.ref b47), .val (.int 3), .val (.int 0), .unset, .unset, .unset, .unset] [(.int 1), (.int p2)])) _
    refine XS.iand X1.here hx rfl (hb hby at_53) rfl ?_
    refine XS.ifYes X1.here hx rfl (pc0 := 54) (pc' := 63) rfl (hb hby at_54) rfl ((if0 _ _).trans (teq (f13 : (p2 &&& (1 : Int32)) = (0 : Int32))).1) (by decide) (by decide) ?_
    show Steps p.tables e below (T1.setTop (mkF m 63 #[.val (.int p0), .val (.int p1), .val (.int p2), .val (.ref b47), .val (.int 3), .val (.int 0), .unset, .unset, .unset, .unset] [])) _
    refine st3 _ ?_
    refine XS.astore X3.here hx rfl (hb hby at_66) rfl rfl (l' := #[.val (.int p0), .val (.int p1), .val (.int p2), .val (.ref b47), .val (.int 3), .val (.int 0), .val (.ref a_CONSUMER), .unset, .unset, .unset]) rfl ?_
    refine XS.aloadN X3.here hx rfl (hb hby at_68) rfl rfl ?_
    refine XS.iload X3.here hx rfl (hb hby at_69) rfl ?_
    show Steps p.tables e below (T3.setTop (mkF m 71 #[.val (.int p0), .val (.int p1), .val (.int p2), .val (.ref b47), .val (.int 3), .val (.int 0), .val (.ref a_CONSUMER), .unset, .unset, .unset] [(.int 3), (.ref b47)])) _
    refine X3.aaload hx (j := (3 : Int32)) (v := (.ref a_COMPLETED)) (by rw [e3]; exact Ar4.1) (State.isArrayOf_alike hZ.alike Ar4.2.1) rfl Ar4.2.2 hin4 hat4 (g := (mkF m 71 #[.val (.int p0), .val (.int p1), .val (.int p2), .val (.ref b47), .val (.int 3), .val (.int 0), .val (.ref a_CONSUMER), .unset, .unset, .unset] [(.int 3), (.ref b47)])) rfl rfl (hb hby at_71) _ ?_
    refine XS.astore X3.here hx rfl (hb hby at_72) rfl rfl (l' := #[.val (.int p0), .val (.int p1), .val (.int p2), .val (.ref b47), .val (.int 3), .val (.int 0), .val (.ref a_CONSUMER), .val (.ref a_COMPLETED), .unset, .unset]) rfl ?_
    refine XS.aload X3.here hx rfl (hb hby at_74) rfl rfl ?_
    show Steps p.tables e below (T3.setTop (mkF m 76 #[.val (.int p0), .val (.int p1), .val (.int p2), .val (.ref b47), .val (.int 3), .val (.int 0), .val (.ref a_CONSUMER), .val (.ref a_COMPLETED), .unset, .unset] [(.ref a_COMPLETED)])) _
    refine st6.trans ?_
    refine XS.istore X6.here hx rfl (hb hby at_79) rfl (l' := #[.val (.int p0), .val (.int p1), .val (.int p2), .val (.ref b47), .val (.int 3), .val (.int 0), .val (.ref a_CONSUMER), .val (.ref a_COMPLETED), .val (.int 1), .unset]) rfl ?_
    refine XS.iload X6.here hx rfl (hb hby at_81) rfl ?_
    refine XS.iconst X6.here hx rfl (hb hby at_83) ?_
    refine XS.icmpNo X6.here hx rfl (hb hby at_84) rfl (by decide) ?_
    show Steps p.tables e below (T6.setTop (mkF m 87 #[.val (.int p0), .val (.int p1), .val (.int p2), .val (.ref b47), .val (.int 3), .val (.int 0), .val (.ref a_CONSUMER), .val (.ref a_COMPLETED), .val (.int 1), .unset] [])) _
    refine XS.iconst X6.here hx rfl (hb hby at_87) ?_
    refine XS.goto X6.here hx rfl (pc0 := 88) (pc' := 92) rfl (hb hby at_88) (by decide) (by decide) ?_
    refine XS.istore X6.here hx rfl (hb hby at_92) rfl (l' := #[.val (.int p0), .val (.int p1), .val (.int p2), .val (.ref b47), .val (.int 3), .val (.int 0), .val (.ref a_CONSUMER), .val (.ref a_COMPLETED), .val (.int 1), .val (.int 1)]) rfl ?_
    refine XS.iload X6.here hx rfl (hb hby at_94) rfl ?_
    refine XS.iload X6.here hx rfl (hb hby at_96) rfl ?_
    show Steps p.tables e below (T6.setTop (mkF m 98 #[.val (.int p0), .val (.int p1), .val (.int p2), .val (.ref b47), .val (.int 3), .val (.int 0), .val (.ref a_CONSUMER), .val (.ref a_COMPLETED), .val (.int 1), .val (.int 1)] [(.int 1), (.int 1)])) _
    refine XS.icmpYes X6.here hx rfl (pc0 := 98) (pc' := 103) rfl (hb hby at_98) rfl (by decide) (by decide) (by decide) ?_
    refine XS.iload X6.here hx rfl (hb hby at_103) rfl ?_
    refine XS.ifNo X6.here hx rfl (hb hby at_105) rfl (by decide) ?_
    refine XS.aload X6.here hx rfl (hb hby at_108) rfl rfl ?_
    refine XS.aloadN X6.here hx rfl (hb hby at_110) rfl rfl ?_
    show Steps p.tables e below (T6.setTop (mkF m 111 #[.val (.int p0), .val (.int p1), .val (.int p2), .val (.ref b47), .val (.int 3), .val (.int 0), .val (.ref a_CONSUMER), .val (.ref a_COMPLETED), .val (.int 1), .val (.int 1)] [(.ref b47), (.ref a_COMPLETED)])) _
    refine XS.iload X6.here hx rfl (hb hby at_111) rfl ?_
    show Steps p.tables e below (T6.setTop (mkF m 113 #[.val (.int p0), .val (.int p1), .val (.int p2), .val (.ref b47), .val (.int 3), .val (.int 0), .val (.ref a_CONSUMER), .val (.ref a_COMPLETED), .val (.int 1), .val (.int 1)] [(.int 0), (.ref b47), (.ref a_COMPLETED)])) _
    refine X6.aaload hx (j := (0 : Int32)) (v := (.ref a_REQUESTED)) (by rw [e6]; exact Ar8.1) (State.isArrayOf_alike hZ.alike Ar8.2.1) rfl Ar8.2.2 hin8 hat8 (g := (mkF m 113 #[.val (.int p0), .val (.int p1), .val (.int p2), .val (.ref b47), .val (.int 3), .val (.int 0), .val (.ref a_CONSUMER), .val (.ref a_COMPLETED), .val (.int 1), .val (.int 1)] [(.int 0), (.ref b47), (.ref a_COMPLETED)])) rfl rfl (hb hby at_113) _ ?_
    refine XS.aload X6.here hx rfl (hb hby at_114) rfl rfl ?_
    show Steps p.tables e below (T6.setTop (mkF m 116 #[.val (.int p0), .val (.int p1), .val (.int p2), .val (.ref b47), .val (.int 3), .val (.int 0), .val (.ref a_CONSUMER), .val (.ref a_COMPLETED), .val (.int 1), .val (.int 1)] [(.ref a_CONSUMER), (.ref a_REQUESTED), (.ref a_COMPLETED)])) _
    refine st11.trans ?_
    refine XS.ifYes X11.here hx rfl (pc0 := 119) (pc' := 124) rfl (hb hby at_119) rfl (by decide) (by decide) (by decide) ?_
    refine XS.iconst X11.here hx rfl (hb hby at_124) ?_
    show Steps p.tables e below (T11.setTop (mkF m 125 #[.val (.int p0), .val (.int p1), .val (.int p2), .val (.ref b47), .val (.int 3), .val (.int 0), .val (.ref a_CONSUMER), .val (.ref a_COMPLETED), .val (.int 1), .val (.int 1)] [(.int 1)])) _
    exact retN X11 hx (t := .boolean) Bd.returns (by simp) (hb hby at_125) hr
  · show QT n0 _ T11.heap _
    exact ⟨rfl, N11⟩
set_option maxRecDepth 65536 in
set_option maxHeartbeats 40000000 in
theorem rm3_62 (l : Launch) (Z : State) (a0 : Array Value) (hw : ∀ d ∈ tables_1, d.before a0 Z = true) (ws : List Jvm.Cond) (a_PROVIDER : Addr) (c0_a : Addr) (h0 : Heap) (n0 : Nat) (Z0 : n0 ≤ h0.size) :
    MetFree l M_1 (head1 (Jvm.Cond.code M_1 jdk_31_method_11_code 2 (some (.object "java/lang/Object")) :: ws) R_0_0_0_0) (fun a U => a = #[(.ref a_PROVIDER), (.ref c0_a)] ∧ Z.Warmed39 U.vm ∧ U.heap = h0) (fun _ _ _ _ _ => True) (fun _ U o U' => ∃ v L, o = .returned v ∧ QP (some (.ref a_PROVIDER)) h0 n0 v U'.heap L ∧ FrameEnd U o U' L R_0_0_0_0.cells R_0_0_0_0.slots) := by
  refine MetFree.of_bodySF (plainFor_of_name pn_java_util_Objects) hisR ?_
  intro p e s m args below meth c s₁ Bd hml0 hP hK
  obtain ⟨rfl, hZ, hh⟩ := hP
  have hx := Bd.exec
  have hby := Bd.bytes
  have hml : c.maxLocals = 2 := hml0
  have hown : s.vm.findClass "java/util/Objects" = some m.cls := findClass_of_methodNamed Bd.named
  have hnm := (name_of_methodNamed Bd.named Bd.method).1
  have X0 : Stand p l e R_0_0_0_0 s m #[(.ref a_PROVIDER), (.ref c0_a)] below meth c s₁ [] 0 0 := Stand.of_body Bd
  have e0 : s₁.heap = h0 := by rw [← hh, Bd.state]; rfl
  have N0 := Fr.nil n0
  obtain ⟨fs, hr, hrun, hended, hW, hsame⟩ := X0.leave (v := (some (.ref a_PROVIDER))) (fun h => by rw [Bd.returns] at h; cases h)
  refine ⟨_, _, castTop (ef3_RR m a_PROVIDER c0_a) ?_, hrun, hended, _, _, rfl, ?_, ⟨_, rfl⟩, hW, hsame.mono (by decide) (by decide)⟩
  · show Steps p.tables e below (s₁.setTop (mkF m 0 #[.val (.ref a_PROVIDER), .val (.ref c0_a)] [])) _
    refine XS.aloadN X0.here hx rfl (hb hby d3_0) rfl rfl ?_
    refine XS.ifnonnullYes X0.here hx rfl (pc0 := 1) (pc' := 13) rfl (hb hby d3_1) rfl (by decide) (by decide) ?_
    refine XS.aloadN X0.here hx rfl (hb hby d3_13) rfl rfl ?_
    show Steps p.tables e below (s₁.setTop (mkF m 14 #[.val (.ref a_PROVIDER), .val (.ref c0_a)] [(.ref a_PROVIDER)])) _
    jvm_step X0.here [X0.here.top, hx, (hb hby d3_14), X0.method', Bd.returns, Value.isRef, FieldType.isReference]
    first | (intro acts; rw [hr _ acts rfl rfl rfl]) | rw [hr _ _ rfl rfl rfl]
    exact Steps.refl _
  · show QP (some (.ref a_PROVIDER)) h0 n0 _ s₁.heap _
    rw [e0]
    exact ⟨rfl, N0, rfl⟩
def Q2_64 (Z : State)  (h0 : Heap) (n0 : Nat) (v : Option Value) (h : Heap) (L : List Loc) : Prop := v = (some (.int 0)) ∧ Fr n0 L ∧ Keep h0 h []
set_option maxRecDepth 65536 in
set_option maxHeartbeats 40000000 in
theorem rm2_63 (l : Launch) (Z : State) (a0 : Array Value) (hw : ∀ d ∈ tables_1, d.before a0 Z = true) (ws : List Jvm.Cond) (a_COMPLETED : Addr) (a_REQUESTED : Addr) (a_PROVIDER : Addr) (h0 : Heap) (n0 : Nat) (Z0 : n0 ≤ h0.size) (f1 : F_0 Z h0 a_REQUESTED (.int 0)) (f2 : E_0 Z h0 a_REQUESTED) :
    MetFree l M_4 (head1 (Jvm.Cond.code M_4 prog_6_method_5_code 3 (some .boolean) :: ws) R_1_4_32_13) (fun a U => a = #[(.ref a_COMPLETED), (.ref a_REQUESTED), (.ref a_PROVIDER)] ∧ Z.Warmed39 U.vm ∧ U.heap = h0) (fun _ _ _ _ _ => True) (fun _ U o U' => ∃ v L, o = .returned v ∧ Q2_64 Z  h0 n0 v U'.heap L ∧ ReturnedEndW U o U' L R_1_4_32_13.cells R_1_4_32_13.slots) := by
  refine MetFree.of_bodySF (plainFor_of_name pn_com_example_offer_offer_model_TransferState) hisR ?_
  intro p e s m args below meth c s₁ Bd hml0 hP hK
  obtain ⟨rfl, hZ, hh⟩ := hP
  have hx := Bd.exec
  have hby := Bd.bytes
  have hml : c.maxLocals = 3 := hml0
  have hown : s.vm.findClass "com/example/offer/offer/model/TransferState" = some m.cls := findClass_of_methodNamed Bd.named
  have hnm := (name_of_methodNamed Bd.named Bd.method).1
  have X0 : Stand p l e R_1_4_32_13 s m #[(.ref a_COMPLETED), (.ref a_REQUESTED), (.ref a_PROVIDER)] below meth c s₁ [] 0 0 := Stand.of_body Bd
  have e0 : s₁.heap = h0 := by rw [← hh, Bd.state]; rfl
  have N0 := Fr.nil n0
  obtain ⟨ax60, T1, h1, kz1, X1, e1, E1, hS1, hk1, hZ1, hown1, st1⟩ := ldcS (s := s) (vm0 := s.vm) X0 hx hZ hown (tw_32 hw) (own_strs hw) e0 ((State.WarmedH.refl s).since 0) (Nat.zero_le _) (g := (mkF m 1 #[.val (.ref a_COMPLETED), .val (.ref a_REQUESTED), .val (.ref a_PROVIDER)] [(.ref a_REQUESTED)])) rfl (hb hby d2_1) (n := 16) (by decide) (by decide) (by decide) (by decide)
  have KK1 : Keep h0 h1 [] := (Keep.refl h0 []).ext E1
  -- pc 3: java/util/Objects.requireNonNull
  obtain ⟨_, _, ⟨T2, L2, k2, n2⟩, -, X2, ⟨Lc2, hQ2, l2, y2, z2⟩, st2⟩ := Jvm.LawKit.callS X1 hx (y := M_1) hown1 (mvT hZ1 (tw_40 hw)) (mvT hZ1 (tw_41 hw)) (mvT hZ1 (tw_42 hw)) (mvT hZ1 (tw_43 hw)) (by decide) (backOf (W := 0) (rm3_51 l Z a0 hw [] a_REQUESTED ax60 h1 n0 (Nat.le_trans Z0 KK1.1) ) hZ1 (tw_43 hw) (tw_42 hw) (by decide) (by decide)) (g := (mkF m 3 #[.val (.ref a_COMPLETED), .val (.ref a_REQUESTED), .val (.ref a_PROVIDER)] [(.ref ax60), (.ref a_REQUESTED)])) rfl (by rw [hml]; rfl) (argsL := [(.ref a_REQUESTED), (.ref ax60)]) (rest := []) (lenOf pd_1 rfl) rfl (by show 2 * 0 + _ ≤ _; exact Nat.le_of_eq rfl) (hb hby d2_3) (fun _ _ => ⟨rfl, e1, (by decide : 2 + 0 ≤ _), (by decide : 20 + 0 ≤ _)⟩)
  dsimp only [Pt.U, Pt.locs, Pt.cells, Pt.slots] at X2 l2 y2 z2 st2 hQ2
  subst l2 y2 z2
  obtain ⟨rfl, Nq2, e2⟩ := hQ2
  have N2 := Fr.app N0 Nq2
  obtain ⟨ax61, T3, h3, kz3, X3, e3, E3, hS3, hk3, hZ3, hown3, st3⟩ := ldcS (s := s) (vm0 := T1.vm) X2 hx hZ1 hown1 (tw_44 hw) (own_strs hw) e2 hS1 hk1 (g := (mkF m 8 #[.val (.ref a_COMPLETED), .val (.ref a_REQUESTED), .val (.ref a_PROVIDER)] [(.ref a_PROVIDER)])) rfl (hb hby d2_8) (n := 8) (by decide) (by decide) (by decide) (by decide)
  have KK3 : Keep h0 h3 [] := KK1.ext E3
  -- pc 10: java/util/Objects.requireNonNull
  obtain ⟨_, _, ⟨T4, L4, k4, n4⟩, -, X4, ⟨Lc4, hQ4, l4, y4, z4⟩, st4⟩ := Jvm.LawKit.callS X3 hx (y := M_1) hown3 (mvT hZ3 (tw_40 hw)) (mvT hZ3 (tw_41 hw)) (mvT hZ3 (tw_42 hw)) (mvT hZ3 (tw_43 hw)) (by decide) (backOf (W := 0) (rm3_62 l Z a0 hw [] a_PROVIDER ax61 h3 n0 (Nat.le_trans Z0 KK3.1) ) hZ3 (tw_43 hw) (tw_42 hw) (by decide) (by decide)) (g := (mkF m 10 #[.val (.ref a_COMPLETED), .val (.ref a_REQUESTED), .val (.ref a_PROVIDER)] [(.ref ax61), (.ref a_PROVIDER)])) rfl (by rw [hml]; rfl) (argsL := [(.ref a_PROVIDER), (.ref ax61)]) (rest := []) (lenOf pd_1 rfl) rfl (by show 2 * 0 + _ ≤ _; exact Nat.le_of_eq rfl) (hb hby d2_10) (fun _ _ => ⟨rfl, e3, (by decide : 4 + 0 ≤ _), (by decide : 32 + 0 ≤ _)⟩)
  dsimp only [Pt.U, Pt.locs, Pt.cells, Pt.slots] at X4 l4 y4 z4 st4 hQ4
  subst l4 y4 z4
  obtain ⟨rfl, Nq4, e4⟩ := hQ4
  have N4 := Fr.app N2 Nq4
  -- pc 15: java/lang/Enum.ordinal
  have u5 : F_0 Z h1 a_REQUESTED (.int 0) := Fld.ext E1 f1
  have u6 : F_0 Z h3 a_REQUESTED (.int 0) := Fld.ext E3 u5
  have u8 : E_0 Z h1 a_REQUESTED := Exa.ext E1 f2
  have u9 : E_0 Z h3 a_REQUESTED := Exa.ext E3 u8
  obtain ⟨cq7, kq7, q7a, q7b, q7c⟩ := isOf hZ3 e4 u9
  obtain ⟨_, _, ⟨T7, L7, k7, n7⟩, -, X7, ⟨Lc7, hQ7, l7, y7, z7⟩, st7⟩ := X4.virtualBackUp hx (x := M_3) (y := M_2) (owner := "java/lang/Enum") hown3 (mvT hZ3 (tw_45 hw)) (mvT hZ3 (tw_46 hw)) (mvT hZ3 (tw_47 hw)) (by decide) (mvT hZ3 (tw_49 hw)) (mvT hZ3 (tw_48 hw)) (backOf (W := 0) (rm4_54 l Z a0 hw [] a_REQUESTED h3 n0 (Nat.le_trans Z0 KK3.1) u6) hZ3 (tw_51 hw) (tw_50 hw) (by decide) (by decide)) q7a q7c (g := (mkF m 15 #[.val (.ref a_COMPLETED), .val (.ref a_REQUESTED), .val (.ref a_PROVIDER)] [(.ref a_REQUESTED)])) rfl (by rw [hml]; rfl) (Steps.refl _) (argsL := []) (rest := []) (lenOf pd_2 rfl) rfl (by show 2 * 0 + _ ≤ _; exact Nat.le_of_eq rfl) (hb hby d2_15) (fun _ _ => ⟨rfl, e4, (by decide : 4 + 0 ≤ _), (by decide : 32 + 0 ≤ _)⟩)
  dsimp only [Pt.U, Pt.locs, Pt.cells, Pt.slots] at X7 l7 y7 z7 st7 hQ7
  subst l7 y7 z7
  obtain ⟨rfl, Nq7, e7⟩ := hQ7
  have N7 := Fr.app N4 Nq7
  obtain ⟨fs, hr, hrun, hended, hRE⟩ := X7.leaveW hS3 (by rw [e7]; exact hk3) (v := (some (.int 0))) (fun h => by rw [Bd.returns] at h; cases h)
  refine ⟨_, _, castTop (ef2_RRR m a_COMPLETED a_REQUESTED a_PROVIDER) ?_, hrun, hended, _, _, rfl, ?_, hRE.1, hRE.2.1, hRE.2.2.1, hRE.2.2.2.mono (by decide) (by decide)⟩
  · show Steps p.tables e below (s₁.setTop (mkF m 0 #[.val (.ref a_COMPLETED), .val (.ref a_REQUESTED), .val (.ref a_PROVIDER)] [])) _
    refine XS.aloadN X0.here hx rfl (hb hby d2_0) rfl rfl ?_
    show Steps p.tables e below (s₁.setTop (mkF m 1 #[.val (.ref a_COMPLETED), .val (.ref a_REQUESTED), .val (.ref a_PROVIDER)] [(.ref a_REQUESTED)])) _
    refine st1 _ ?_
    show Steps p.tables e below (T1.setTop (mkF m 3 #[.val (.ref a_COMPLETED), .val (.ref a_REQUESTED), .val (.ref a_PROVIDER)] [(.ref ax60), (.ref a_REQUESTED)])) _
    refine st2 _ ?_
    refine XS.pop X2.here hx rfl (hb hby d2_6) rfl rfl ?_
    refine XS.aloadN X2.here hx rfl (hb hby d2_7) rfl rfl ?_
    show Steps p.tables e below (T2.setTop (mkF m 8 #[.val (.ref a_COMPLETED), .val (.ref a_REQUESTED), .val (.ref a_PROVIDER)] [(.ref a_PROVIDER)])) _
    refine st3 _ ?_
    show Steps p.tables e below (T3.setTop (mkF m 10 #[.val (.ref a_COMPLETED), .val (.ref a_REQUESTED), .val (.ref a_PROVIDER)] [(.ref ax61), (.ref a_PROVIDER)])) _
    refine st4 _ ?_
    refine XS.pop X4.here hx rfl (hb hby d2_13) rfl rfl ?_
    refine XS.aloadN X4.here hx rfl (hb hby d2_14) rfl rfl ?_
    show Steps p.tables e below (T4.setTop (mkF m 15 #[.val (.ref a_COMPLETED), .val (.ref a_REQUESTED), .val (.ref a_PROVIDER)] [(.ref a_REQUESTED)])) _
    refine st7.trans ?_
    show Steps p.tables e below (T7.setTop (mkF m 18 #[.val (.ref a_COMPLETED), .val (.ref a_REQUESTED), .val (.ref a_PROVIDER)] [(.int 0)])) _
    refine XS.tswIn X7.here hx rfl (pc0 := 18) (pc' := 62) (o := 44) rfl (hb hby d2_18) rfl (by decide) (by decide) (by decide) (by decide) ?_
    refine XS.iconst X7.here hx rfl (hb hby d2_62) ?_
    refine XS.goto X7.here hx rfl (pc0 := 63) (pc' := 122) rfl (hb hby d2_63) (by decide) (by decide) ?_
    show Steps p.tables e below (T7.setTop (mkF m 122 #[.val (.ref a_COMPLETED), .val (.ref a_REQUESTED), .val (.ref a_PROVIDER)] [(.int 0)])) _
    exact retN X7 hx (t := .boolean) Bd.returns (by simp) (hb hby d2_122) hr
  · show Q2_64 Z  h0 n0 _ T7.heap _
    rw [e7]
    exact ⟨rfl, N7, KK3⟩
set_option maxRecDepth 65536 in
set_option maxHeartbeats 40000000 in
theorem rm0_65 (l : Launch) (Z : State) (a0 : Array Value) (hw : ∀ d ∈ tables_1, d.before a0 Z = true) (ws : List Jvm.Cond) (p0 : Int32) (p1 : Int32) (p2 : Int32) (a_REQUESTED : Addr) (a_STARTED : Addr) (a_SUSPENDED : Addr) (a_COMPLETED : Addr) (a_TERMINATED : Addr) (a_PROVIDER : Addr) (h0 : Heap) (n0 : Nat) (Z0 : n0 ≤ h0.size) (f1 : S_0 Z h0 (.ref a_REQUESTED)) (f2 : E_0 Z h0 a_REQUESTED) (f3 : S_1 Z h0 (.ref a_STARTED)) (f4 : E_0 Z h0 a_STARTED) (f5 : S_2 Z h0 (.ref a_SUSPENDED)) (f6 : E_0 Z h0 a_SUSPENDED) (f7 : S_3 Z h0 (.ref a_COMPLETED)) (f8 : E_0 Z h0 a_COMPLETED) (f9 : S_4 Z h0 (.ref a_TERMINATED)) (f10 : E_0 Z h0 a_TERMINATED) (f11 : ((p0 &&& (2147483647 : Int32)) % (5 : Int32)) = (3 : Int32)) (f12 : ((p1 &&& (2147483647 : Int32)) % (5 : Int32)) = (0 : Int32)) (f13 : ¬ ((p2 &&& (1 : Int32)) = (0 : Int32))) (f14 : S_6 Z h0 (.ref a_PROVIDER)) (f15 : F_0 Z h0 a_REQUESTED (.int 0)) :
    MetFree l x (head1 (Jvm.Cond.code x code maxLocals ret :: ws) room_1) (fun a U => a = #[(.int p0), (.int p1), (.int p2)] ∧ Z.Warmed39 U.vm ∧ U.heap = h0) (fun _ _ _ _ _ => True) (fun _ U o U' => ∃ v L, o = .returned v ∧ QT n0 v U'.heap L ∧ ReturnedEndW U o U' L room_1.cells room_1.slots) := by
  refine MetFree.of_bodySF (plainFor_of_name pn_com_example_offer_offer_model_TransferStateIsFinalPinLaw) hisR ?_
  intro p e s m args below meth c s₁ Bd hml0 hP hK
  obtain ⟨rfl, hZ, hh⟩ := hP
  have hx := Bd.exec
  have hby := Bd.bytes
  have hml : c.maxLocals = 10 := hml0
  have hown : s.vm.findClass "com/example/offer/offer/model/TransferStateIsFinalPinLaw" = some m.cls := findClass_of_methodNamed Bd.named
  have hnm := (name_of_methodNamed Bd.named Bd.method).1
  have X0 : Stand p l e room_1 s m #[(.int p0), (.int p1), (.int p2)] below meth c s₁ [] 0 0 := Stand.of_body Bd
  have e0 : s₁.heap = h0 := by rw [← hh, Bd.state]; rfl
  have N0 := Fr.nil n0
  obtain ⟨T1, h1, L1, b58, kc59, X1, e1, N1, K1, le_b58, o1_0, o1_1, st1⟩ := sg0_25 p0 p1 p2 a_REQUESTED a_STARTED a_SUSPENDED a_COMPLETED a_TERMINATED X0 hx hZ hw hby hml hown e0 N0 Z0 f1 f2 f3 f4 f5 f6 f7 f8 f9 f10
  have sz_b58 : h0.size ≤ b58 := Nat.le_trans (Nat.le_refl _) le_b58
  have g_b58 : n0 ≤ b58 := Nat.le_trans Z0 sz_b58
  have KK1 : Keep h0 h1 [] := (Keep.refl h0 []).trans K1 (fun x hx => nomatch hx)
  have u2 : S_6 Z h1 (.ref a_PROVIDER) := own_sta_keep f14 K1 (fun _ q => nomatch q)
  obtain ⟨T3, X3, e3, st3⟩ := getS2 X1 hx hZ hown (host := "") (Or.inl (tw_25 hw)) Via.refl e1 u2 (g := (mkF m 57 #[.val (.int p0), .val (.int p1), .val (.int p2), .val (.ref b58), .val (.int 3), .val (.int 0), .unset, .unset, .unset, .unset] [])) rfl (hb hby at_57)
  have va4 := o1_0
  obtain ⟨cl4, Ar4, -, S4, -, H4, -⟩ := va4
  have hin4 : ¬ ((3 : Int32) < 0 ∨ cl4.slots.size ≤ ((3 : Int32)).toNatClampNeg) := inb_of S4 ⟨by decide, by decide⟩
  have hat4 : cl4.slots[((3 : Int32)).toNatClampNeg]? = some (.ref a_COMPLETED) := H4 _ (Nat.lt_of_not_le fun y => hin4 (Or.inr y))
  -- pc 76: com/example/offer/offer/model/TransferState.isFinal
  have u5 : S_3 Z h1 (.ref a_COMPLETED) := own_sta_keep f7 K1 (fun _ q => nomatch q)
  have u7 : E_0 Z h1 a_COMPLETED := Exa.keep f8 K1
  obtain ⟨cq6, kq6, q6a, q6b, q6c⟩ := isOf hZ e3 u7
  obtain ⟨_, _, ⟨T6, L6, k6, n6⟩, -, X6, ⟨Lc6, hQ6, l6, y6, z6⟩, st6⟩ := X3.virtualBack hx (y := M_0) (z := M_0) hown (mvT hZ (tw_18 hw)) (mvT hZ (tw_19 hw)) (notFace_of_selects (args := #[]) (mvT hZ (tw_21 hw))) (mvT hZ (tw_21 hw)) (mvT hZ (tw_20 hw)) (by decide) (backOf (W := 0) (rm1_49 l Z a0 hw [] a_COMPLETED h1 n0 (Nat.le_trans Z0 KK1.1) u5) hZ (tw_22 hw) (tw_3 hw) (by decide) (by decide)) q6a q6c (g := (mkF m 76 #[.val (.int p0), .val (.int p1), .val (.int p2), .val (.ref b58), .val (.int 3), .val (.int 0), .val (.ref a_PROVIDER), .val (.ref a_COMPLETED), .unset, .unset] [(.ref a_COMPLETED)])) rfl (by rw [hml]; rfl) (Steps.refl _) (argsL := []) (rest := []) (lenOf pd_0 rfl) rfl (by show 2 * 0 + _ ≤ _; exact Nat.le_of_eq rfl) (hb hby at_76) (fun _ _ => ⟨rfl, e3, (by decide : 1 + 0 ≤ _), (by decide : 5 + 0 ≤ _)⟩)
  dsimp only [Pt.U, Pt.locs, Pt.cells, Pt.slots] at X6 l6 y6 z6 st6 hQ6
  subst l6 y6 z6
  obtain ⟨rfl, Nq6, e6⟩ := hQ6
  have N6 := Fr.app N1 Nq6
  have va8 := o1_0
  obtain ⟨cl8, Ar8, -, S8, -, H8, -⟩ := va8
  have hin8 : ¬ ((0 : Int32) < 0 ∨ cl8.slots.size ≤ ((0 : Int32)).toNatClampNeg) := inb_of S8 ⟨by decide, by decide⟩
  have hat8 : cl8.slots[((0 : Int32)).toNatClampNeg]? = some (.ref a_REQUESTED) := H8 _ (Nat.lt_of_not_le fun y => hin8 (Or.inr y))
  -- pc 116: com/example/offer/offer/model/TransferState.canMoveTo
  have u9 : F_0 Z h1 a_REQUESTED (.int 0) := Fld.keep f15 K1 List.not_mem_nil
  have u10 : E_0 Z h1 a_REQUESTED := Exa.keep f2 K1
  obtain ⟨cq11, kq11, q11a, q11b, q11c⟩ := isOf hZ e6 u7
  obtain ⟨_, _, ⟨T11, L11, k11, n11⟩, -, X11, hS11, hg11, ⟨Lc11, hQ11, l11, y11, z11⟩, st11⟩ := X6.virtualBackS hx (y := M_4) (z := M_4) hown (mvT hZ (tw_27 hw)) (mvT hZ (tw_28 hw)) (notFace_of_selects (args := #[]) (mvT hZ (tw_30 hw))) (mvT hZ (tw_30 hw)) (mvT hZ (tw_29 hw)) (by decide) (backOfS (W := 0) (rm2_63 l Z a0 hw [] a_COMPLETED a_REQUESTED a_PROVIDER h1 n0 (Nat.le_trans Z0 KK1.1) u9 u10) hZ (tw_31 hw) (tw_3 hw) (by decide) (by decide)) q11a q11c (g := (mkF m 116 #[.val (.int p0), .val (.int p1), .val (.int p2), .val (.ref b58), .val (.int 3), .val (.int 0), .val (.ref a_PROVIDER), .val (.ref a_COMPLETED), .val (.int 1), .val (.int 1)] [(.ref a_PROVIDER), (.ref a_REQUESTED), (.ref a_COMPLETED)])) rfl (by rw [hml]; rfl) (Steps.refl _) (argsL := [(.ref a_REQUESTED), (.ref a_PROVIDER)]) (rest := []) (lenOf pd_3 rfl) rfl (by show 2 * 0 + _ ≤ _; exact Nat.le_of_eq rfl) (hb hby at_116) (fun _ _ => ⟨rfl, e6, (by decide : 1 + 4 ≤ _), (by decide : 5 + 32 ≤ _)⟩)
  dsimp only [Pt.U, Pt.locs, Pt.cells, Pt.slots] at X11 l11 y11 z11 st11 hQ11 hS11 hg11
  subst l11 y11 z11
  have hZ11 : Z.Warmed39 (s.setVm T11.vm).vm := State.Warmed39.trans hZ hS11.1
  have hown11 : (s.setVm T11.vm).vm.findClass "com/example/offer/offer/model/TransferStateIsFinalPinLaw" = some m.cls := by rw [show (s.setVm T11.vm).vm = T11.vm from rfl, hS11.1.alike.findClass]; exact hown
  obtain ⟨rfl, Nq11, K11⟩ := hQ11
  have N11 := Fr.app N6 Nq11
  have KK11 : Keep h0 T11.heap [] := KK1.trans K11 (fun x hx => nomatch hx)
  obtain ⟨fs, hr, hrun, hended, hRE⟩ := X11.leaveW hS11 (by exact (Nat.le_refl _)) (v := (some (.int 1))) (fun h => by rw [Bd.returns] at h; cases h)
  refine ⟨_, _, castTop (ef0_III m p0 p1 p2) ?_, hrun, hended, _, _, rfl, ?_, hRE.1, hRE.2.1, hRE.2.2.1, hRE.2.2.2.mono (by decide) (by decide)⟩
  · show Steps p.tables e below (s₁.setTop (mkF m 0 #[.val (.int p0), .val (.int p1), .val (.int p2), .unset, .unset, .unset, .unset, .unset, .unset, .unset] [])) _
    refine st1 _ ?_
    refine XS.iloadN X1.here hx rfl (hb hby at_35) rfl ?_
    show Steps p.tables e below (T1.setTop (mkF m 36 #[.val (.int p0), .val (.int p1), .val (.int p2), .val (.ref b58), .unset, .unset, .unset, .unset, .unset, .unset] [(.int p0)])) _
    refine X1.ldcInt hx hown (mvT hZ (tw_14 hw)) (g := (mkF m 36 #[.val (.int p0), .val (.int p1), .val (.int p2), .val (.ref b58), .unset, .unset, .unset, .unset, .unset, .unset] [(.int p0)])) rfl (hb hby at_36) _ ?_
    show Steps p.tables e below (T1.setTop (mkF m 38 #[.val (.int p0), .val (.int p1), .val (.int p2), .val (.ref b58), .unset, .unset, .unset, .unset, .unset, .unset] [(.int 2147483647), (.int p0)])) _
    refine XS.iand X1.here hx rfl (hb hby at_38) rfl ?_
    refine XS.iconst X1.here hx rfl (hb hby at_39) ?_
    show Steps p.tables e below (T1.setTop (mkF m 40 #[.val (.int p0), .val (.int p1), .val (.int p2), .val (.ref b58), .unset, .unset, .unset, .unset, .unset, .unset] [(.int 5), (.int (p0 &&& (2147483647 : Int32)))])) _
    refine iremM X1 hx rfl (hb hby at_40) rfl (by decide) ?_
    show Steps p.tables e below (T1.setTop (mkF m 41 #[.val (.int p0), .val (.int p1), .val (.int p2), .val (.ref b58), .unset, .unset, .unset, .unset, .unset, .unset] [(.int ((p0 &&& (2147483647 : Int32)) % (5 : Int32)))])) _
    rw [f11]
    refine XS.istore X1.here hx rfl (hb hby at_41) rfl (l' := #[.val (.int p0), .val (.int p1), .val (.int p2), .val (.ref b58), .val (.int 3), .unset, .unset, .unset, .unset, .unset]) rfl ?_
    refine XS.iloadN X1.here hx rfl (hb hby at_43) rfl ?_
    show Steps p.tables e below (T1.setTop (mkF m 44 #[.val (.int p0), .val (.int p1), .val (.int p2), .val (.ref b58), .val (.int 3), .unset, .unset, .unset, .unset, .unset] [(.int p1)])) _
    refine X1.ldcInt hx hown (mvT hZ (tw_14 hw)) (g := (mkF m 44 #[.val (.int p0), .val (.int p1), .val (.int p2), .val (.ref b58), .val (.int 3), .unset, .unset, .unset, .unset, .unset] [(.int p1)])) rfl (hb hby at_44) _ ?_
    show Steps p.tables e below (T1.setTop (mkF m 46 #[.val (.int p0), .val (.int p1), .val (.int p2), .val (.ref b58), .val (.int 3), .unset, .unset, .unset, .unset, .unset] [(.int 2147483647), (.int p1)])) _
    refine XS.iand X1.here hx rfl (hb hby at_46) rfl ?_
    refine XS.iconst X1.here hx rfl (hb hby at_47) ?_
    show Steps p.tables e below (T1.setTop (mkF m 48 #[.val (.int p0), .val (.int p1), .val (.int p2), .val (.ref b58), .val (.int 3), .unset, .unset, .unset, .unset, .unset] [(.int 5), (.int (p1 &&& (2147483647 : Int32)))])) _
    refine iremM X1 hx rfl (hb hby at_48) rfl (by decide) ?_
    show Steps p.tables e below (T1.setTop (mkF m 49 #[.val (.int p0), .val (.int p1), .val (.int p2), .val (.ref b58), .val (.int 3), .unset, .unset, .unset, .unset, .unset] [(.int ((p1 &&& (2147483647 : Int32)) % (5 : Int32)))])) _
    rw [f12]
    refine XS.istore X1.here hx rfl (hb hby at_49) rfl (l' := #[.val (.int p0), .val (.int p1), .val (.int p2), .val (.ref b58), .val (.int 3), .val (.int 0), .unset, .unset, .unset, .unset]) rfl ?_
    refine XS.iloadN X1.here hx rfl (hb hby at_51) rfl ?_
    refine XS.iconst X1.here hx rfl (hb hby at_52) ?_
    show Steps p.tables e below (T1.setTop (mkF m 53 #[.val (.int p0), .val (.int p1), .val (.int p2), .val (.ref b58), .val (.int 3), .val (.int 0), .unset, .unset, .unset, .unset] [(.int 1), (.int p2)])) _
    refine XS.iand X1.here hx rfl (hb hby at_53) rfl ?_
    refine XS.ifNo X1.here hx rfl (hb hby at_54) rfl ((if0 _ _).trans (feq (f13 : ¬ ((p2 &&& (1 : Int32)) = (0 : Int32)))).1) ?_
    show Steps p.tables e below (T1.setTop (mkF m 57 #[.val (.int p0), .val (.int p1), .val (.int p2), .val (.ref b58), .val (.int 3), .val (.int 0), .unset, .unset, .unset, .unset] [])) _
    refine st3 _ ?_
    refine XS.goto X3.here hx rfl (pc0 := 60) (pc' := 66) rfl (hb hby at_60) (by decide) (by decide) ?_
    refine XS.astore X3.here hx rfl (hb hby at_66) rfl rfl (l' := #[.val (.int p0), .val (.int p1), .val (.int p2), .val (.ref b58), .val (.int 3), .val (.int 0), .val (.ref a_PROVIDER), .unset, .unset, .unset]) rfl ?_
    refine XS.aloadN X3.here hx rfl (hb hby at_68) rfl rfl ?_
    refine XS.iload X3.here hx rfl (hb hby at_69) rfl ?_
    show Steps p.tables e below (T3.setTop (mkF m 71 #[.val (.int p0), .val (.int p1), .val (.int p2), .val (.ref b58), .val (.int 3), .val (.int 0), .val (.ref a_PROVIDER), .unset, .unset, .unset] [(.int 3), (.ref b58)])) _
    refine X3.aaload hx (j := (3 : Int32)) (v := (.ref a_COMPLETED)) (by rw [e3]; exact Ar4.1) (State.isArrayOf_alike hZ.alike Ar4.2.1) rfl Ar4.2.2 hin4 hat4 (g := (mkF m 71 #[.val (.int p0), .val (.int p1), .val (.int p2), .val (.ref b58), .val (.int 3), .val (.int 0), .val (.ref a_PROVIDER), .unset, .unset, .unset] [(.int 3), (.ref b58)])) rfl rfl (hb hby at_71) _ ?_
    refine XS.astore X3.here hx rfl (hb hby at_72) rfl rfl (l' := #[.val (.int p0), .val (.int p1), .val (.int p2), .val (.ref b58), .val (.int 3), .val (.int 0), .val (.ref a_PROVIDER), .val (.ref a_COMPLETED), .unset, .unset]) rfl ?_
    refine XS.aload X3.here hx rfl (hb hby at_74) rfl rfl ?_
    show Steps p.tables e below (T3.setTop (mkF m 76 #[.val (.int p0), .val (.int p1), .val (.int p2), .val (.ref b58), .val (.int 3), .val (.int 0), .val (.ref a_PROVIDER), .val (.ref a_COMPLETED), .unset, .unset] [(.ref a_COMPLETED)])) _
    refine st6.trans ?_
    refine XS.istore X6.here hx rfl (hb hby at_79) rfl (l' := #[.val (.int p0), .val (.int p1), .val (.int p2), .val (.ref b58), .val (.int 3), .val (.int 0), .val (.ref a_PROVIDER), .val (.ref a_COMPLETED), .val (.int 1), .unset]) rfl ?_
    refine XS.iload X6.here hx rfl (hb hby at_81) rfl ?_
    refine XS.iconst X6.here hx rfl (hb hby at_83) ?_
    refine XS.icmpNo X6.here hx rfl (hb hby at_84) rfl (by decide) ?_
    show Steps p.tables e below (T6.setTop (mkF m 87 #[.val (.int p0), .val (.int p1), .val (.int p2), .val (.ref b58), .val (.int 3), .val (.int 0), .val (.ref a_PROVIDER), .val (.ref a_COMPLETED), .val (.int 1), .unset] [])) _
    refine XS.iconst X6.here hx rfl (hb hby at_87) ?_
    refine XS.goto X6.here hx rfl (pc0 := 88) (pc' := 92) rfl (hb hby at_88) (by decide) (by decide) ?_
    refine XS.istore X6.here hx rfl (hb hby at_92) rfl (l' := #[.val (.int p0), .val (.int p1), .val (.int p2), .val (.ref b58), .val (.int 3), .val (.int 0), .val (.ref a_PROVIDER), .val (.ref a_COMPLETED), .val (.int 1), .val (.int 1)]) rfl ?_
    refine XS.iload X6.here hx rfl (hb hby at_94) rfl ?_
    refine XS.iload X6.here hx rfl (hb hby at_96) rfl ?_
    show Steps p.tables e below (T6.setTop (mkF m 98 #[.val (.int p0), .val (.int p1), .val (.int p2), .val (.ref b58), .val (.int 3), .val (.int 0), .val (.ref a_PROVIDER), .val (.ref a_COMPLETED), .val (.int 1), .val (.int 1)] [(.int 1), (.int 1)])) _
    refine XS.icmpYes X6.here hx rfl (pc0 := 98) (pc' := 103) rfl (hb hby at_98) rfl (by decide) (by decide) (by decide) ?_
    refine XS.iload X6.here hx rfl (hb hby at_103) rfl ?_
    refine XS.ifNo X6.here hx rfl (hb hby at_105) rfl (by decide) ?_
    refine XS.aload X6.here hx rfl (hb hby at_108) rfl rfl ?_
    refine XS.aloadN X6.here hx rfl (hb hby at_110) rfl rfl ?_
    show Steps p.tables e below (T6.setTop (mkF m 111 #[.val (.int p0), .val (.int p1), .val (.int p2), .val (.ref b58), .val (.int 3), .val (.int 0), .val (.ref a_PROVIDER), .val (.ref a_COMPLETED), .val (.int 1), .val (.int 1)] [(.ref b58), (.ref a_COMPLETED)])) _
    refine XS.iload X6.here hx rfl (hb hby at_111) rfl ?_
    show Steps p.tables e below (T6.setTop (mkF m 113 #[.val (.int p0), .val (.int p1), .val (.int p2), .val (.ref b58), .val (.int 3), .val (.int 0), .val (.ref a_PROVIDER), .val (.ref a_COMPLETED), .val (.int 1), .val (.int 1)] [(.int 0), (.ref b58), (.ref a_COMPLETED)])) _
    refine X6.aaload hx (j := (0 : Int32)) (v := (.ref a_REQUESTED)) (by rw [e6]; exact Ar8.1) (State.isArrayOf_alike hZ.alike Ar8.2.1) rfl Ar8.2.2 hin8 hat8 (g := (mkF m 113 #[.val (.int p0), .val (.int p1), .val (.int p2), .val (.ref b58), .val (.int 3), .val (.int 0), .val (.ref a_PROVIDER), .val (.ref a_COMPLETED), .val (.int 1), .val (.int 1)] [(.int 0), (.ref b58), (.ref a_COMPLETED)])) rfl rfl (hb hby at_113) _ ?_
    refine XS.aload X6.here hx rfl (hb hby at_114) rfl rfl ?_
    show Steps p.tables e below (T6.setTop (mkF m 116 #[.val (.int p0), .val (.int p1), .val (.int p2), .val (.ref b58), .val (.int 3), .val (.int 0), .val (.ref a_PROVIDER), .val (.ref a_COMPLETED), .val (.int 1), .val (.int 1)] [(.ref a_PROVIDER), (.ref a_REQUESTED), (.ref a_COMPLETED)])) _
    refine st11.trans ?_
    refine XS.ifYes X11.here hx rfl (pc0 := 119) (pc' := 124) rfl (hb hby at_119) rfl (by decide) (by decide) (by decide) ?_
    refine XS.iconst X11.here hx rfl (hb hby at_124) ?_
    show Steps p.tables e below (T11.setTop (mkF m 125 #[.val (.int p0), .val (.int p1), .val (.int p2), .val (.ref b58), .val (.int 3), .val (.int 0), .val (.ref a_PROVIDER), .val (.ref a_COMPLETED), .val (.int 1), .val (.int 1)] [(.int 1)])) _
    exact retN X11 hx (t := .boolean) Bd.returns (by simp) (hb hby at_125) hr
  · show QT n0 _ T11.heap _
    exact ⟨rfl, N11⟩
set_option maxRecDepth 65536 in
set_option maxHeartbeats 40000000 in
theorem rm3_69 (l : Launch) (Z : State) (a0 : Array Value) (hw : ∀ d ∈ tables_1, d.before a0 Z = true) (ws : List Jvm.Cond) (a_STARTED : Addr) (c0_a : Addr) (h0 : Heap) (n0 : Nat) (Z0 : n0 ≤ h0.size) :
    MetFree l M_1 (head1 (Jvm.Cond.code M_1 jdk_31_method_11_code 2 (some (.object "java/lang/Object")) :: ws) R_0_0_0_0) (fun a U => a = #[(.ref a_STARTED), (.ref c0_a)] ∧ Z.Warmed39 U.vm ∧ U.heap = h0) (fun _ _ _ _ _ => True) (fun _ U o U' => ∃ v L, o = .returned v ∧ QP (some (.ref a_STARTED)) h0 n0 v U'.heap L ∧ FrameEnd U o U' L R_0_0_0_0.cells R_0_0_0_0.slots) := by
  refine MetFree.of_bodySF (plainFor_of_name pn_java_util_Objects) hisR ?_
  intro p e s m args below meth c s₁ Bd hml0 hP hK
  obtain ⟨rfl, hZ, hh⟩ := hP
  have hx := Bd.exec
  have hby := Bd.bytes
  have hml : c.maxLocals = 2 := hml0
  have hown : s.vm.findClass "java/util/Objects" = some m.cls := findClass_of_methodNamed Bd.named
  have hnm := (name_of_methodNamed Bd.named Bd.method).1
  have X0 : Stand p l e R_0_0_0_0 s m #[(.ref a_STARTED), (.ref c0_a)] below meth c s₁ [] 0 0 := Stand.of_body Bd
  have e0 : s₁.heap = h0 := by rw [← hh, Bd.state]; rfl
  have N0 := Fr.nil n0
  obtain ⟨fs, hr, hrun, hended, hW, hsame⟩ := X0.leave (v := (some (.ref a_STARTED))) (fun h => by rw [Bd.returns] at h; cases h)
  refine ⟨_, _, castTop (ef3_RR m a_STARTED c0_a) ?_, hrun, hended, _, _, rfl, ?_, ⟨_, rfl⟩, hW, hsame.mono (by decide) (by decide)⟩
  · show Steps p.tables e below (s₁.setTop (mkF m 0 #[.val (.ref a_STARTED), .val (.ref c0_a)] [])) _
    refine XS.aloadN X0.here hx rfl (hb hby d3_0) rfl rfl ?_
    refine XS.ifnonnullYes X0.here hx rfl (pc0 := 1) (pc' := 13) rfl (hb hby d3_1) rfl (by decide) (by decide) ?_
    refine XS.aloadN X0.here hx rfl (hb hby d3_13) rfl rfl ?_
    show Steps p.tables e below (s₁.setTop (mkF m 14 #[.val (.ref a_STARTED), .val (.ref c0_a)] [(.ref a_STARTED)])) _
    jvm_step X0.here [X0.here.top, hx, (hb hby d3_14), X0.method', Bd.returns, Value.isRef, FieldType.isReference]
    first | (intro acts; rw [hr _ acts rfl rfl rfl]) | rw [hr _ _ rfl rfl rfl]
    exact Steps.refl _
  · show QP (some (.ref a_STARTED)) h0 n0 _ s₁.heap _
    rw [e0]
    exact ⟨rfl, N0, rfl⟩
set_option maxRecDepth 65536 in
set_option maxHeartbeats 40000000 in
theorem rm4_71 (l : Launch) (Z : State) (a0 : Array Value) (hw : ∀ d ∈ tables_1, d.before a0 Z = true) (ws : List Jvm.Cond) (a_STARTED : Addr) (h0 : Heap) (n0 : Nat) (Z0 : n0 ≤ h0.size) (f1 : F_0 Z h0 a_STARTED (.int 1)) :
    MetFree l M_2 (head1 (Jvm.Cond.code M_2 jdk_37_method_2_code 1 (some .int) :: ws) R_0_0_0_0) (fun a U => a = #[(.ref a_STARTED)] ∧ Z.Warmed39 U.vm ∧ U.heap = h0) (fun _ _ _ _ _ => True) (fun _ U o U' => ∃ v L, o = .returned v ∧ QP (some (.int 1)) h0 n0 v U'.heap L ∧ FrameEnd U o U' L R_0_0_0_0.cells R_0_0_0_0.slots) := by
  refine MetFree.of_bodySF (plainFor_of_name pn_java_lang_Enum) hisR ?_
  intro p e s m args below meth c s₁ Bd hml0 hP hK
  obtain ⟨rfl, hZ, hh⟩ := hP
  have hx := Bd.exec
  have hby := Bd.bytes
  have hml : c.maxLocals = 1 := hml0
  have hown : s.vm.findClass "java/lang/Enum" = some m.cls := findClass_of_methodNamed Bd.named
  have hnm := (name_of_methodNamed Bd.named Bd.method).1
  have X0 : Stand p l e R_0_0_0_0 s m #[(.ref a_STARTED)] below meth c s₁ [] 0 0 := Stand.of_body Bd
  have e0 : s₁.heap = h0 := by rw [← hh, Bd.state]; rfl
  have N0 := Fr.nil n0
  obtain ⟨T1, X1, e1, st1⟩ := getF X0 hx hZ hown (host := "") (Or.inl (tw_52 hw)) Via.refl e0 f1 (g := (mkF m 1 #[.val (.ref a_STARTED)] [(.ref a_STARTED)])) rfl rfl (hb hby d4_1)
  obtain ⟨fs, hr, hrun, hended, hW, hsame⟩ := X1.leave (v := (some (.int 1))) (fun h => by rw [Bd.returns] at h; cases h)
  refine ⟨_, _, castTop (ef4_R m a_STARTED) ?_, hrun, hended, _, _, rfl, ?_, ⟨_, rfl⟩, hW, hsame.mono (by decide) (by decide)⟩
  · show Steps p.tables e below (s₁.setTop (mkF m 0 #[.val (.ref a_STARTED)] [])) _
    refine XS.aloadN X0.here hx rfl (hb hby d4_0) rfl rfl ?_
    show Steps p.tables e below (s₁.setTop (mkF m 1 #[.val (.ref a_STARTED)] [(.ref a_STARTED)])) _
    refine st1 _ ?_
    show Steps p.tables e below (T1.setTop (mkF m 4 #[.val (.ref a_STARTED)] [(.int 1)])) _
    exact retI X1 hx Bd.returns (hb hby d4_4) hr
  · show QP (some (.int 1)) h0 n0 _ T1.heap _
    rw [e1]
    exact ⟨rfl, N0, rfl⟩
theorem d2_66 : decode prog_6_method_5_code 66 = .ok (.aload_n 0, 1) := by decide +kernel
theorem d2_67 : decode prog_6_method_5_code 67 = .ok (.getstatic 3, 3) := by decide +kernel
theorem tw_55 {a0 : Array Value} {Z : State} (hw : ∀ d ∈ tables_1, d.before a0 Z = true) : (Jvm.Cond.fieldLink "com/example/offer/offer/model/TransferState" (3 : Nat) "com/example/offer/offer/model/TransferState" "REQUESTED" "Lcom/example/offer/offer/model/TransferState;").before a0 Z = true := hw _ (List.mem_of_getElem? (i := 55) rfl)
theorem d2_70 : decode prog_6_method_5_code 70 = .ok (.if_acmp .ne 10, 3) := by decide +kernel
theorem d2_80 : decode prog_6_method_5_code 80 = .ok (.aload_n 0, 1) := by decide +kernel
theorem d2_81 : decode prog_6_method_5_code 81 = .ok (.getstatic 10, 3) := by decide +kernel
theorem tw_56 {a0 : Array Value} {Z : State} (hw : ∀ d ∈ tables_1, d.before a0 Z = true) : (Jvm.Cond.fieldLink "com/example/offer/offer/model/TransferState" (10 : Nat) "com/example/offer/offer/model/TransferState" "SUSPENDED" "Lcom/example/offer/offer/model/TransferState;").before a0 Z = true := hw _ (List.mem_of_getElem? (i := 56) rfl)
theorem d2_84 : decode prog_6_method_5_code 84 = .ok (.if_acmp .ne 7, 3) := by decide +kernel
theorem d2_91 : decode prog_6_method_5_code 91 = .ok (.iconst 0, 1) := by decide +kernel
theorem d2_92 : decode prog_6_method_5_code 92 = .ok (.goto 30, 3) := by decide +kernel
def Q2_73 (Z : State)  (h0 : Heap) (n0 : Nat) (v : Option Value) (h : Heap) (L : List Loc) : Prop := v = (some (.int 0)) ∧ Fr n0 L ∧ Keep h0 h []
set_option maxRecDepth 65536 in
set_option maxHeartbeats 40000000 in
theorem rm2_72 (l : Launch) (Z : State) (a0 : Array Value) (hw : ∀ d ∈ tables_1, d.before a0 Z = true) (ws : List Jvm.Cond) (a_COMPLETED : Addr) (a_STARTED : Addr) (a_CONSUMER : Addr) (a_REQUESTED : Addr) (a_SUSPENDED : Addr) (h0 : Heap) (n0 : Nat) (Z0 : n0 ≤ h0.size) (f1 : F_0 Z h0 a_STARTED (.int 1)) (f2 : E_0 Z h0 a_STARTED) (f3 : S_0 Z h0 (.ref a_REQUESTED)) (f4 : a_REQUESTED ≠ a_COMPLETED) (f5 : S_2 Z h0 (.ref a_SUSPENDED)) (f6 : a_COMPLETED ≠ a_SUSPENDED) :
    MetFree l M_4 (head1 (Jvm.Cond.code M_4 prog_6_method_5_code 3 (some .boolean) :: ws) R_1_4_32_13) (fun a U => a = #[(.ref a_COMPLETED), (.ref a_STARTED), (.ref a_CONSUMER)] ∧ Z.Warmed39 U.vm ∧ U.heap = h0) (fun _ _ _ _ _ => True) (fun _ U o U' => ∃ v L, o = .returned v ∧ Q2_73 Z  h0 n0 v U'.heap L ∧ ReturnedEndW U o U' L R_1_4_32_13.cells R_1_4_32_13.slots) := by
  refine MetFree.of_bodySF (plainFor_of_name pn_com_example_offer_offer_model_TransferState) hisR ?_
  intro p e s m args below meth c s₁ Bd hml0 hP hK
  obtain ⟨rfl, hZ, hh⟩ := hP
  have hx := Bd.exec
  have hby := Bd.bytes
  have hml : c.maxLocals = 3 := hml0
  have hown : s.vm.findClass "com/example/offer/offer/model/TransferState" = some m.cls := findClass_of_methodNamed Bd.named
  have hnm := (name_of_methodNamed Bd.named Bd.method).1
  have X0 : Stand p l e R_1_4_32_13 s m #[(.ref a_COMPLETED), (.ref a_STARTED), (.ref a_CONSUMER)] below meth c s₁ [] 0 0 := Stand.of_body Bd
  have e0 : s₁.heap = h0 := by rw [← hh, Bd.state]; rfl
  have N0 := Fr.nil n0
  obtain ⟨ax68, T1, h1, kz1, X1, e1, E1, hS1, hk1, hZ1, hown1, st1⟩ := ldcS (s := s) (vm0 := s.vm) X0 hx hZ hown (tw_32 hw) (own_strs hw) e0 ((State.WarmedH.refl s).since 0) (Nat.zero_le _) (g := (mkF m 1 #[.val (.ref a_COMPLETED), .val (.ref a_STARTED), .val (.ref a_CONSUMER)] [(.ref a_STARTED)])) rfl (hb hby d2_1) (n := 16) (by decide) (by decide) (by decide) (by decide)
  have KK1 : Keep h0 h1 [] := (Keep.refl h0 []).ext E1
  -- pc 3: java/util/Objects.requireNonNull
  obtain ⟨_, _, ⟨T2, L2, k2, n2⟩, -, X2, ⟨Lc2, hQ2, l2, y2, z2⟩, st2⟩ := Jvm.LawKit.callS X1 hx (y := M_1) hown1 (mvT hZ1 (tw_40 hw)) (mvT hZ1 (tw_41 hw)) (mvT hZ1 (tw_42 hw)) (mvT hZ1 (tw_43 hw)) (by decide) (backOf (W := 0) (rm3_69 l Z a0 hw [] a_STARTED ax68 h1 n0 (Nat.le_trans Z0 KK1.1) ) hZ1 (tw_43 hw) (tw_42 hw) (by decide) (by decide)) (g := (mkF m 3 #[.val (.ref a_COMPLETED), .val (.ref a_STARTED), .val (.ref a_CONSUMER)] [(.ref ax68), (.ref a_STARTED)])) rfl (by rw [hml]; rfl) (argsL := [(.ref a_STARTED), (.ref ax68)]) (rest := []) (lenOf pd_1 rfl) rfl (by show 2 * 0 + _ ≤ _; exact Nat.le_of_eq rfl) (hb hby d2_3) (fun _ _ => ⟨rfl, e1, (by decide : 2 + 0 ≤ _), (by decide : 20 + 0 ≤ _)⟩)
  dsimp only [Pt.U, Pt.locs, Pt.cells, Pt.slots] at X2 l2 y2 z2 st2 hQ2
  subst l2 y2 z2
  obtain ⟨rfl, Nq2, e2⟩ := hQ2
  have N2 := Fr.app N0 Nq2
  obtain ⟨ax70, T3, h3, kz3, X3, e3, E3, hS3, hk3, hZ3, hown3, st3⟩ := ldcS (s := s) (vm0 := T1.vm) X2 hx hZ1 hown1 (tw_44 hw) (own_strs hw) e2 hS1 hk1 (g := (mkF m 8 #[.val (.ref a_COMPLETED), .val (.ref a_STARTED), .val (.ref a_CONSUMER)] [(.ref a_CONSUMER)])) rfl (hb hby d2_8) (n := 8) (by decide) (by decide) (by decide) (by decide)
  have KK3 : Keep h0 h3 [] := KK1.ext E3
  -- pc 10: java/util/Objects.requireNonNull
  obtain ⟨_, _, ⟨T4, L4, k4, n4⟩, -, X4, ⟨Lc4, hQ4, l4, y4, z4⟩, st4⟩ := Jvm.LawKit.callS X3 hx (y := M_1) hown3 (mvT hZ3 (tw_40 hw)) (mvT hZ3 (tw_41 hw)) (mvT hZ3 (tw_42 hw)) (mvT hZ3 (tw_43 hw)) (by decide) (backOf (W := 0) (rm3_53 l Z a0 hw [] a_CONSUMER ax70 h3 n0 (Nat.le_trans Z0 KK3.1) ) hZ3 (tw_43 hw) (tw_42 hw) (by decide) (by decide)) (g := (mkF m 10 #[.val (.ref a_COMPLETED), .val (.ref a_STARTED), .val (.ref a_CONSUMER)] [(.ref ax70), (.ref a_CONSUMER)])) rfl (by rw [hml]; rfl) (argsL := [(.ref a_CONSUMER), (.ref ax70)]) (rest := []) (lenOf pd_1 rfl) rfl (by show 2 * 0 + _ ≤ _; exact Nat.le_of_eq rfl) (hb hby d2_10) (fun _ _ => ⟨rfl, e3, (by decide : 4 + 0 ≤ _), (by decide : 32 + 0 ≤ _)⟩)
  dsimp only [Pt.U, Pt.locs, Pt.cells, Pt.slots] at X4 l4 y4 z4 st4 hQ4
  subst l4 y4 z4
  obtain ⟨rfl, Nq4, e4⟩ := hQ4
  have N4 := Fr.app N2 Nq4
  -- pc 15: java/lang/Enum.ordinal
  have u5 : F_0 Z h1 a_STARTED (.int 1) := Fld.ext E1 f1
  have u6 : F_0 Z h3 a_STARTED (.int 1) := Fld.ext E3 u5
  have u8 : E_0 Z h1 a_STARTED := Exa.ext E1 f2
  have u9 : E_0 Z h3 a_STARTED := Exa.ext E3 u8
  obtain ⟨cq7, kq7, q7a, q7b, q7c⟩ := isOf hZ3 e4 u9
  obtain ⟨_, _, ⟨T7, L7, k7, n7⟩, -, X7, ⟨Lc7, hQ7, l7, y7, z7⟩, st7⟩ := X4.virtualBackUp hx (x := M_3) (y := M_2) (owner := "java/lang/Enum") hown3 (mvT hZ3 (tw_45 hw)) (mvT hZ3 (tw_46 hw)) (mvT hZ3 (tw_47 hw)) (by decide) (mvT hZ3 (tw_49 hw)) (mvT hZ3 (tw_48 hw)) (backOf (W := 0) (rm4_71 l Z a0 hw [] a_STARTED h3 n0 (Nat.le_trans Z0 KK3.1) u6) hZ3 (tw_51 hw) (tw_50 hw) (by decide) (by decide)) q7a q7c (g := (mkF m 15 #[.val (.ref a_COMPLETED), .val (.ref a_STARTED), .val (.ref a_CONSUMER)] [(.ref a_STARTED)])) rfl (by rw [hml]; rfl) (Steps.refl _) (argsL := []) (rest := []) (lenOf pd_2 rfl) rfl (by show 2 * 0 + _ ≤ _; exact Nat.le_of_eq rfl) (hb hby d2_15) (fun _ _ => ⟨rfl, e4, (by decide : 4 + 0 ≤ _), (by decide : 32 + 0 ≤ _)⟩)
  dsimp only [Pt.U, Pt.locs, Pt.cells, Pt.slots] at X7 l7 y7 z7 st7 hQ7
  subst l7 y7 z7
  obtain ⟨rfl, Nq7, e7⟩ := hQ7
  have N7 := Fr.app N4 Nq7
  have u10 : S_0 Z h1 (.ref a_REQUESTED) := Sta.ext E1 f3
  have u11 : S_0 Z h3 (.ref a_REQUESTED) := Sta.ext E3 u10
  obtain ⟨T12, X12, e12, st12⟩ := getS2 X7 hx hZ3 hown3 (host := "") (Or.inl (tw_55 hw)) Via.refl e7 u11 (g := (mkF m 67 #[.val (.ref a_COMPLETED), .val (.ref a_STARTED), .val (.ref a_CONSUMER)] [(.ref a_COMPLETED)])) rfl (hb hby d2_67)
  have u13 : S_2 Z h1 (.ref a_SUSPENDED) := Sta.ext E1 f5
  have u14 : S_2 Z h3 (.ref a_SUSPENDED) := Sta.ext E3 u13
  obtain ⟨T15, X15, e15, st15⟩ := getS2 X12 hx hZ3 hown3 (host := "") (Or.inl (tw_56 hw)) Via.refl e12 u14 (g := (mkF m 81 #[.val (.ref a_COMPLETED), .val (.ref a_STARTED), .val (.ref a_CONSUMER)] [(.ref a_COMPLETED)])) rfl (hb hby d2_81)
  obtain ⟨fs, hr, hrun, hended, hRE⟩ := X15.leaveW hS3 (by rw [e15]; exact hk3) (v := (some (.int 0))) (fun h => by rw [Bd.returns] at h; cases h)
  refine ⟨_, _, castTop (ef2_RRR m a_COMPLETED a_STARTED a_CONSUMER) ?_, hrun, hended, _, _, rfl, ?_, hRE.1, hRE.2.1, hRE.2.2.1, hRE.2.2.2.mono (by decide) (by decide)⟩
  · show Steps p.tables e below (s₁.setTop (mkF m 0 #[.val (.ref a_COMPLETED), .val (.ref a_STARTED), .val (.ref a_CONSUMER)] [])) _
    refine XS.aloadN X0.here hx rfl (hb hby d2_0) rfl rfl ?_
    show Steps p.tables e below (s₁.setTop (mkF m 1 #[.val (.ref a_COMPLETED), .val (.ref a_STARTED), .val (.ref a_CONSUMER)] [(.ref a_STARTED)])) _
    refine st1 _ ?_
    show Steps p.tables e below (T1.setTop (mkF m 3 #[.val (.ref a_COMPLETED), .val (.ref a_STARTED), .val (.ref a_CONSUMER)] [(.ref ax68), (.ref a_STARTED)])) _
    refine st2 _ ?_
    refine XS.pop X2.here hx rfl (hb hby d2_6) rfl rfl ?_
    refine XS.aloadN X2.here hx rfl (hb hby d2_7) rfl rfl ?_
    show Steps p.tables e below (T2.setTop (mkF m 8 #[.val (.ref a_COMPLETED), .val (.ref a_STARTED), .val (.ref a_CONSUMER)] [(.ref a_CONSUMER)])) _
    refine st3 _ ?_
    show Steps p.tables e below (T3.setTop (mkF m 10 #[.val (.ref a_COMPLETED), .val (.ref a_STARTED), .val (.ref a_CONSUMER)] [(.ref ax70), (.ref a_CONSUMER)])) _
    refine st4 _ ?_
    refine XS.pop X4.here hx rfl (hb hby d2_13) rfl rfl ?_
    refine XS.aloadN X4.here hx rfl (hb hby d2_14) rfl rfl ?_
    show Steps p.tables e below (T4.setTop (mkF m 15 #[.val (.ref a_COMPLETED), .val (.ref a_STARTED), .val (.ref a_CONSUMER)] [(.ref a_STARTED)])) _
    refine st7.trans ?_
    show Steps p.tables e below (T7.setTop (mkF m 18 #[.val (.ref a_COMPLETED), .val (.ref a_STARTED), .val (.ref a_CONSUMER)] [(.int 1)])) _
    refine XS.tswIn X7.here hx rfl (pc0 := 18) (pc' := 66) (o := 48) rfl (hb hby d2_18) rfl (by decide) (by decide) (by decide) (by decide) ?_
    refine XS.aloadN X7.here hx rfl (hb hby d2_66) rfl rfl ?_
    show Steps p.tables e below (T7.setTop (mkF m 67 #[.val (.ref a_COMPLETED), .val (.ref a_STARTED), .val (.ref a_CONSUMER)] [(.ref a_COMPLETED)])) _
    refine st12 _ ?_
    show Steps p.tables e below (T12.setTop (mkF m 70 #[.val (.ref a_COMPLETED), .val (.ref a_STARTED), .val (.ref a_CONSUMER)] [(.ref a_REQUESTED), (.ref a_COMPLETED)])) _
    refine Jvm.RoadKit.acmp (g := (mkF m 70 #[.val (.ref a_COMPLETED), .val (.ref a_STARTED), .val (.ref a_CONSUMER)] [(.ref a_REQUESTED), (.ref a_COMPLETED)])) X12 hx rfl rfl rfl (pc0 := 70) (pc' := 80) (same := false) rfl (hb hby d2_70) rfl (decide_eq_false fun q => (Ne.symm f4) (Value.ref.inj q)) (by decide) (by decide) ?_
    refine XS.aloadN X12.here hx rfl (hb hby d2_80) rfl rfl ?_
    show Steps p.tables e below (T12.setTop (mkF m 81 #[.val (.ref a_COMPLETED), .val (.ref a_STARTED), .val (.ref a_CONSUMER)] [(.ref a_COMPLETED)])) _
    refine st15 _ ?_
    show Steps p.tables e below (T15.setTop (mkF m 84 #[.val (.ref a_COMPLETED), .val (.ref a_STARTED), .val (.ref a_CONSUMER)] [(.ref a_SUSPENDED), (.ref a_COMPLETED)])) _
    refine Jvm.RoadKit.acmp (g := (mkF m 84 #[.val (.ref a_COMPLETED), .val (.ref a_STARTED), .val (.ref a_CONSUMER)] [(.ref a_SUSPENDED), (.ref a_COMPLETED)])) X15 hx rfl rfl rfl (pc0 := 84) (pc' := 91) (same := false) rfl (hb hby d2_84) rfl (decide_eq_false fun q => f6 (Value.ref.inj q)) (by decide) (by decide) ?_
    refine XS.iconst X15.here hx rfl (hb hby d2_91) ?_
    refine XS.goto X15.here hx rfl (pc0 := 92) (pc' := 122) rfl (hb hby d2_92) (by decide) (by decide) ?_
    show Steps p.tables e below (T15.setTop (mkF m 122 #[.val (.ref a_COMPLETED), .val (.ref a_STARTED), .val (.ref a_CONSUMER)] [(.int 0)])) _
    exact retN X15 hx (t := .boolean) Bd.returns (by simp) (hb hby d2_122) hr
  · show Q2_73 Z  h0 n0 _ T15.heap _
    rw [e15]
    exact ⟨rfl, N7, KK3⟩
set_option maxRecDepth 65536 in
set_option maxHeartbeats 40000000 in
theorem rm0_74 (l : Launch) (Z : State) (a0 : Array Value) (hw : ∀ d ∈ tables_1, d.before a0 Z = true) (ws : List Jvm.Cond) (p0 : Int32) (p1 : Int32) (p2 : Int32) (a_REQUESTED : Addr) (a_STARTED : Addr) (a_SUSPENDED : Addr) (a_COMPLETED : Addr) (a_TERMINATED : Addr) (a_CONSUMER : Addr) (h0 : Heap) (n0 : Nat) (Z0 : n0 ≤ h0.size) (f1 : S_0 Z h0 (.ref a_REQUESTED)) (f2 : E_0 Z h0 a_REQUESTED) (f3 : S_1 Z h0 (.ref a_STARTED)) (f4 : E_0 Z h0 a_STARTED) (f5 : S_2 Z h0 (.ref a_SUSPENDED)) (f6 : E_0 Z h0 a_SUSPENDED) (f7 : S_3 Z h0 (.ref a_COMPLETED)) (f8 : E_0 Z h0 a_COMPLETED) (f9 : S_4 Z h0 (.ref a_TERMINATED)) (f10 : E_0 Z h0 a_TERMINATED) (f11 : ((p0 &&& (2147483647 : Int32)) % (5 : Int32)) = (3 : Int32)) (f12 : ((p1 &&& (2147483647 : Int32)) % (5 : Int32)) = (1 : Int32)) (f13 : (p2 &&& (1 : Int32)) = (0 : Int32)) (f14 : S_5 Z h0 (.ref a_CONSUMER)) (f15 : F_0 Z h0 a_STARTED (.int 1)) (f16 : a_REQUESTED ≠ a_COMPLETED) (f17 : a_COMPLETED ≠ a_SUSPENDED) :
    MetFree l x (head1 (Jvm.Cond.code x code maxLocals ret :: ws) room_1) (fun a U => a = #[(.int p0), (.int p1), (.int p2)] ∧ Z.Warmed39 U.vm ∧ U.heap = h0) (fun _ _ _ _ _ => True) (fun _ U o U' => ∃ v L, o = .returned v ∧ QT n0 v U'.heap L ∧ ReturnedEndW U o U' L room_1.cells room_1.slots) := by
  refine MetFree.of_bodySF (plainFor_of_name pn_com_example_offer_offer_model_TransferStateIsFinalPinLaw) hisR ?_
  intro p e s m args below meth c s₁ Bd hml0 hP hK
  obtain ⟨rfl, hZ, hh⟩ := hP
  have hx := Bd.exec
  have hby := Bd.bytes
  have hml : c.maxLocals = 10 := hml0
  have hown : s.vm.findClass "com/example/offer/offer/model/TransferStateIsFinalPinLaw" = some m.cls := findClass_of_methodNamed Bd.named
  have hnm := (name_of_methodNamed Bd.named Bd.method).1
  have X0 : Stand p l e room_1 s m #[(.int p0), (.int p1), (.int p2)] below meth c s₁ [] 0 0 := Stand.of_body Bd
  have e0 : s₁.heap = h0 := by rw [← hh, Bd.state]; rfl
  have N0 := Fr.nil n0
  obtain ⟨T1, h1, L1, b66, kc67, X1, e1, N1, K1, le_b66, o1_0, o1_1, st1⟩ := sg0_25 p0 p1 p2 a_REQUESTED a_STARTED a_SUSPENDED a_COMPLETED a_TERMINATED X0 hx hZ hw hby hml hown e0 N0 Z0 f1 f2 f3 f4 f5 f6 f7 f8 f9 f10
  have sz_b66 : h0.size ≤ b66 := Nat.le_trans (Nat.le_refl _) le_b66
  have g_b66 : n0 ≤ b66 := Nat.le_trans Z0 sz_b66
  have KK1 : Keep h0 h1 [] := (Keep.refl h0 []).trans K1 (fun x hx => nomatch hx)
  have u2 : S_5 Z h1 (.ref a_CONSUMER) := own_sta_keep f14 K1 (fun _ q => nomatch q)
  obtain ⟨T3, X3, e3, st3⟩ := getS2 X1 hx hZ hown (host := "") (Or.inl (tw_15 hw)) Via.refl e1 u2 (g := (mkF m 63 #[.val (.int p0), .val (.int p1), .val (.int p2), .val (.ref b66), .val (.int 3), .val (.int 1), .unset, .unset, .unset, .unset] [])) rfl (hb hby at_63)
  have va4 := o1_0
  obtain ⟨cl4, Ar4, -, S4, -, H4, -⟩ := va4
  have hin4 : ¬ ((3 : Int32) < 0 ∨ cl4.slots.size ≤ ((3 : Int32)).toNatClampNeg) := inb_of S4 ⟨by decide, by decide⟩
  have hat4 : cl4.slots[((3 : Int32)).toNatClampNeg]? = some (.ref a_COMPLETED) := H4 _ (Nat.lt_of_not_le fun y => hin4 (Or.inr y))
  -- pc 76: com/example/offer/offer/model/TransferState.isFinal
  have u5 : S_3 Z h1 (.ref a_COMPLETED) := own_sta_keep f7 K1 (fun _ q => nomatch q)
  have u7 : E_0 Z h1 a_COMPLETED := Exa.keep f8 K1
  obtain ⟨cq6, kq6, q6a, q6b, q6c⟩ := isOf hZ e3 u7
  obtain ⟨_, _, ⟨T6, L6, k6, n6⟩, -, X6, ⟨Lc6, hQ6, l6, y6, z6⟩, st6⟩ := X3.virtualBack hx (y := M_0) (z := M_0) hown (mvT hZ (tw_18 hw)) (mvT hZ (tw_19 hw)) (notFace_of_selects (args := #[]) (mvT hZ (tw_21 hw))) (mvT hZ (tw_21 hw)) (mvT hZ (tw_20 hw)) (by decide) (backOf (W := 0) (rm1_49 l Z a0 hw [] a_COMPLETED h1 n0 (Nat.le_trans Z0 KK1.1) u5) hZ (tw_22 hw) (tw_3 hw) (by decide) (by decide)) q6a q6c (g := (mkF m 76 #[.val (.int p0), .val (.int p1), .val (.int p2), .val (.ref b66), .val (.int 3), .val (.int 1), .val (.ref a_CONSUMER), .val (.ref a_COMPLETED), .unset, .unset] [(.ref a_COMPLETED)])) rfl (by rw [hml]; rfl) (Steps.refl _) (argsL := []) (rest := []) (lenOf pd_0 rfl) rfl (by show 2 * 0 + _ ≤ _; exact Nat.le_of_eq rfl) (hb hby at_76) (fun _ _ => ⟨rfl, e3, (by decide : 1 + 0 ≤ _), (by decide : 5 + 0 ≤ _)⟩)
  dsimp only [Pt.U, Pt.locs, Pt.cells, Pt.slots] at X6 l6 y6 z6 st6 hQ6
  subst l6 y6 z6
  obtain ⟨rfl, Nq6, e6⟩ := hQ6
  have N6 := Fr.app N1 Nq6
  have va8 := o1_0
  obtain ⟨cl8, Ar8, -, S8, -, H8, -⟩ := va8
  have hin8 : ¬ ((1 : Int32) < 0 ∨ cl8.slots.size ≤ ((1 : Int32)).toNatClampNeg) := inb_of S8 ⟨by decide, by decide⟩
  have hat8 : cl8.slots[((1 : Int32)).toNatClampNeg]? = some (.ref a_STARTED) := H8 _ (Nat.lt_of_not_le fun y => hin8 (Or.inr y))
  -- pc 116: com/example/offer/offer/model/TransferState.canMoveTo
  have u9 : F_0 Z h1 a_STARTED (.int 1) := Fld.keep f15 K1 List.not_mem_nil
  have u10 : E_0 Z h1 a_STARTED := Exa.keep f4 K1
  have u11 : S_0 Z h1 (.ref a_REQUESTED) := own_sta_keep f1 K1 (fun _ q => nomatch q)
  have u12 : S_2 Z h1 (.ref a_SUSPENDED) := own_sta_keep f5 K1 (fun _ q => nomatch q)
  obtain ⟨cq13, kq13, q13a, q13b, q13c⟩ := isOf hZ e6 u7
  obtain ⟨_, _, ⟨T13, L13, k13, n13⟩, -, X13, hS13, hg13, ⟨Lc13, hQ13, l13, y13, z13⟩, st13⟩ := X6.virtualBackS hx (y := M_4) (z := M_4) hown (mvT hZ (tw_27 hw)) (mvT hZ (tw_28 hw)) (notFace_of_selects (args := #[]) (mvT hZ (tw_30 hw))) (mvT hZ (tw_30 hw)) (mvT hZ (tw_29 hw)) (by decide) (backOfS (W := 0) (rm2_72 l Z a0 hw [] a_COMPLETED a_STARTED a_CONSUMER a_REQUESTED a_SUSPENDED h1 n0 (Nat.le_trans Z0 KK1.1) u9 u10 u11 f16 u12 f17) hZ (tw_31 hw) (tw_3 hw) (by decide) (by decide)) q13a q13c (g := (mkF m 116 #[.val (.int p0), .val (.int p1), .val (.int p2), .val (.ref b66), .val (.int 3), .val (.int 1), .val (.ref a_CONSUMER), .val (.ref a_COMPLETED), .val (.int 1), .val (.int 1)] [(.ref a_CONSUMER), (.ref a_STARTED), (.ref a_COMPLETED)])) rfl (by rw [hml]; rfl) (Steps.refl _) (argsL := [(.ref a_STARTED), (.ref a_CONSUMER)]) (rest := []) (lenOf pd_3 rfl) rfl (by show 2 * 0 + _ ≤ _; exact Nat.le_of_eq rfl) (hb hby at_116) (fun _ _ => ⟨rfl, e6, (by decide : 1 + 4 ≤ _), (by decide : 5 + 32 ≤ _)⟩)
  dsimp only [Pt.U, Pt.locs, Pt.cells, Pt.slots] at X13 l13 y13 z13 st13 hQ13 hS13 hg13
  subst l13 y13 z13
  have hZ13 : Z.Warmed39 (s.setVm T13.vm).vm := State.Warmed39.trans hZ hS13.1
  have hown13 : (s.setVm T13.vm).vm.findClass "com/example/offer/offer/model/TransferStateIsFinalPinLaw" = some m.cls := by rw [show (s.setVm T13.vm).vm = T13.vm from rfl, hS13.1.alike.findClass]; exact hown
  obtain ⟨rfl, Nq13, K13⟩ := hQ13
  have N13 := Fr.app N6 Nq13
  have KK13 : Keep h0 T13.heap [] := KK1.trans K13 (fun x hx => nomatch hx)
  obtain ⟨fs, hr, hrun, hended, hRE⟩ := X13.leaveW hS13 (by exact (Nat.le_refl _)) (v := (some (.int 1))) (fun h => by rw [Bd.returns] at h; cases h)
  refine ⟨_, _, castTop (ef0_III m p0 p1 p2) ?_, hrun, hended, _, _, rfl, ?_, hRE.1, hRE.2.1, hRE.2.2.1, hRE.2.2.2.mono (by decide) (by decide)⟩
  · show Steps p.tables e below (s₁.setTop (mkF m 0 #[.val (.int p0), .val (.int p1), .val (.int p2), .unset, .unset, .unset, .unset, .unset, .unset, .unset] [])) _
    refine st1 _ ?_
    refine XS.iloadN X1.here hx rfl (hb hby at_35) rfl ?_
    show Steps p.tables e below (T1.setTop (mkF m 36 #[.val (.int p0), .val (.int p1), .val (.int p2), .val (.ref b66), .unset, .unset, .unset, .unset, .unset, .unset] [(.int p0)])) _
    refine X1.ldcInt hx hown (mvT hZ (tw_14 hw)) (g := (mkF m 36 #[.val (.int p0), .val (.int p1), .val (.int p2), .val (.ref b66), .unset, .unset, .unset, .unset, .unset, .unset] [(.int p0)])) rfl (hb hby at_36) _ ?_
    show Steps p.tables e below (T1.setTop (mkF m 38 #[.val (.int p0), .val (.int p1), .val (.int p2), .val (.ref b66), .unset, .unset, .unset, .unset, .unset, .unset] [(.int 2147483647), (.int p0)])) _
    refine XS.iand X1.here hx rfl (hb hby at_38) rfl ?_
    refine XS.iconst X1.here hx rfl (hb hby at_39) ?_
    show Steps p.tables e below (T1.setTop (mkF m 40 #[.val (.int p0), .val (.int p1), .val (.int p2), .val (.ref b66), .unset, .unset, .unset, .unset, .unset, .unset] [(.int 5), (.int (p0 &&& (2147483647 : Int32)))])) _
    refine iremM X1 hx rfl (hb hby at_40) rfl (by decide) ?_
    show Steps p.tables e below (T1.setTop (mkF m 41 #[.val (.int p0), .val (.int p1), .val (.int p2), .val (.ref b66), .unset, .unset, .unset, .unset, .unset, .unset] [(.int ((p0 &&& (2147483647 : Int32)) % (5 : Int32)))])) _
    rw [f11]
    refine XS.istore X1.here hx rfl (hb hby at_41) rfl (l' := #[.val (.int p0), .val (.int p1), .val (.int p2), .val (.ref b66), .val (.int 3), .unset, .unset, .unset, .unset, .unset]) rfl ?_
    refine XS.iloadN X1.here hx rfl (hb hby at_43) rfl ?_
    show Steps p.tables e below (T1.setTop (mkF m 44 #[.val (.int p0), .val (.int p1), .val (.int p2), .val (.ref b66), .val (.int 3), .unset, .unset, .unset, .unset, .unset] [(.int p1)])) _
    refine X1.ldcInt hx hown (mvT hZ (tw_14 hw)) (g := (mkF m 44 #[.val (.int p0), .val (.int p1), .val (.int p2), .val (.ref b66), .val (.int 3), .unset, .unset, .unset, .unset, .unset] [(.int p1)])) rfl (hb hby at_44) _ ?_
    show Steps p.tables e below (T1.setTop (mkF m 46 #[.val (.int p0), .val (.int p1), .val (.int p2), .val (.ref b66), .val (.int 3), .unset, .unset, .unset, .unset, .unset] [(.int 2147483647), (.int p1)])) _
    refine XS.iand X1.here hx rfl (hb hby at_46) rfl ?_
    refine XS.iconst X1.here hx rfl (hb hby at_47) ?_
    show Steps p.tables e below (T1.setTop (mkF m 48 #[.val (.int p0), .val (.int p1), .val (.int p2), .val (.ref b66), .val (.int 3), .unset, .unset, .unset, .unset, .unset] [(.int 5), (.int (p1 &&& (2147483647 : Int32)))])) _
    refine iremM X1 hx rfl (hb hby at_48) rfl (by decide) ?_
    show Steps p.tables e below (T1.setTop (mkF m 49 #[.val (.int p0), .val (.int p1), .val (.int p2), .val (.ref b66), .val (.int 3), .unset, .unset, .unset, .unset, .unset] [(.int ((p1 &&& (2147483647 : Int32)) % (5 : Int32)))])) _
    rw [f12]
    refine XS.istore X1.here hx rfl (hb hby at_49) rfl (l' := #[.val (.int p0), .val (.int p1), .val (.int p2), .val (.ref b66), .val (.int 3), .val (.int 1), .unset, .unset, .unset, .unset]) rfl ?_
    refine XS.iloadN X1.here hx rfl (hb hby at_51) rfl ?_
    refine XS.iconst X1.here hx rfl (hb hby at_52) ?_
    show Steps p.tables e below (T1.setTop (mkF m 53 #[.val (.int p0), .val (.int p1), .val (.int p2), .val (.ref b66), .val (.int 3), .val (.int 1), .unset, .unset, .unset, .unset] [(.int 1), (.int p2)])) _
    refine XS.iand X1.here hx rfl (hb hby at_53) rfl ?_
    refine XS.ifYes X1.here hx rfl (pc0 := 54) (pc' := 63) rfl (hb hby at_54) rfl ((if0 _ _).trans (teq (f13 : (p2 &&& (1 : Int32)) = (0 : Int32))).1) (by decide) (by decide) ?_
    show Steps p.tables e below (T1.setTop (mkF m 63 #[.val (.int p0), .val (.int p1), .val (.int p2), .val (.ref b66), .val (.int 3), .val (.int 1), .unset, .unset, .unset, .unset] [])) _
    refine st3 _ ?_
    refine XS.astore X3.here hx rfl (hb hby at_66) rfl rfl (l' := #[.val (.int p0), .val (.int p1), .val (.int p2), .val (.ref b66), .val (.int 3), .val (.int 1), .val (.ref a_CONSUMER), .unset, .unset, .unset]) rfl ?_
    refine XS.aloadN X3.here hx rfl (hb hby at_68) rfl rfl ?_
    refine XS.iload X3.here hx rfl (hb hby at_69) rfl ?_
    show Steps p.tables e below (T3.setTop (mkF m 71 #[.val (.int p0), .val (.int p1), .val (.int p2), .val (.ref b66), .val (.int 3), .val (.int 1), .val (.ref a_CONSUMER), .unset, .unset, .unset] [(.int 3), (.ref b66)])) _
    refine X3.aaload hx (j := (3 : Int32)) (v := (.ref a_COMPLETED)) (by rw [e3]; exact Ar4.1) (State.isArrayOf_alike hZ.alike Ar4.2.1) rfl Ar4.2.2 hin4 hat4 (g := (mkF m 71 #[.val (.int p0), .val (.int p1), .val (.int p2), .val (.ref b66), .val (.int 3), .val (.int 1), .val (.ref a_CONSUMER), .unset, .unset, .unset] [(.int 3), (.ref b66)])) rfl rfl (hb hby at_71) _ ?_
    refine XS.astore X3.here hx rfl (hb hby at_72) rfl rfl (l' := #[.val (.int p0), .val (.int p1), .val (.int p2), .val (.ref b66), .val (.int 3), .val (.int 1), .val (.ref a_CONSUMER), .val (.ref a_COMPLETED), .unset, .unset]) rfl ?_
    refine XS.aload X3.here hx rfl (hb hby at_74) rfl rfl ?_
    show Steps p.tables e below (T3.setTop (mkF m 76 #[.val (.int p0), .val (.int p1), .val (.int p2), .val (.ref b66), .val (.int 3), .val (.int 1), .val (.ref a_CONSUMER), .val (.ref a_COMPLETED), .unset, .unset] [(.ref a_COMPLETED)])) _
    refine st6.trans ?_
    refine XS.istore X6.here hx rfl (hb hby at_79) rfl (l' := #[.val (.int p0), .val (.int p1), .val (.int p2), .val (.ref b66), .val (.int 3), .val (.int 1), .val (.ref a_CONSUMER), .val (.ref a_COMPLETED), .val (.int 1), .unset]) rfl ?_
    refine XS.iload X6.here hx rfl (hb hby at_81) rfl ?_
    refine XS.iconst X6.here hx rfl (hb hby at_83) ?_
    refine XS.icmpNo X6.here hx rfl (hb hby at_84) rfl (by decide) ?_
    show Steps p.tables e below (T6.setTop (mkF m 87 #[.val (.int p0), .val (.int p1), .val (.int p2), .val (.ref b66), .val (.int 3), .val (.int 1), .val (.ref a_CONSUMER), .val (.ref a_COMPLETED), .val (.int 1), .unset] [])) _
    refine XS.iconst X6.here hx rfl (hb hby at_87) ?_
    refine XS.goto X6.here hx rfl (pc0 := 88) (pc' := 92) rfl (hb hby at_88) (by decide) (by decide) ?_
    refine XS.istore X6.here hx rfl (hb hby at_92) rfl (l' := #[.val (.int p0), .val (.int p1), .val (.int p2), .val (.ref b66), .val (.int 3), .val (.int 1), .val (.ref a_CONSUMER), .val (.ref a_COMPLETED), .val (.int 1), .val (.int 1)]) rfl ?_
    refine XS.iload X6.here hx rfl (hb hby at_94) rfl ?_
    refine XS.iload X6.here hx rfl (hb hby at_96) rfl ?_
    show Steps p.tables e below (T6.setTop (mkF m 98 #[.val (.int p0), .val (.int p1), .val (.int p2), .val (.ref b66), .val (.int 3), .val (.int 1), .val (.ref a_CONSUMER), .val (.ref a_COMPLETED), .val (.int 1), .val (.int 1)] [(.int 1), (.int 1)])) _
    refine XS.icmpYes X6.here hx rfl (pc0 := 98) (pc' := 103) rfl (hb hby at_98) rfl (by decide) (by decide) (by decide) ?_
    refine XS.iload X6.here hx rfl (hb hby at_103) rfl ?_
    refine XS.ifNo X6.here hx rfl (hb hby at_105) rfl (by decide) ?_
    refine XS.aload X6.here hx rfl (hb hby at_108) rfl rfl ?_
    refine XS.aloadN X6.here hx rfl (hb hby at_110) rfl rfl ?_
    show Steps p.tables e below (T6.setTop (mkF m 111 #[.val (.int p0), .val (.int p1), .val (.int p2), .val (.ref b66), .val (.int 3), .val (.int 1), .val (.ref a_CONSUMER), .val (.ref a_COMPLETED), .val (.int 1), .val (.int 1)] [(.ref b66), (.ref a_COMPLETED)])) _
    refine XS.iload X6.here hx rfl (hb hby at_111) rfl ?_
    show Steps p.tables e below (T6.setTop (mkF m 113 #[.val (.int p0), .val (.int p1), .val (.int p2), .val (.ref b66), .val (.int 3), .val (.int 1), .val (.ref a_CONSUMER), .val (.ref a_COMPLETED), .val (.int 1), .val (.int 1)] [(.int 1), (.ref b66), (.ref a_COMPLETED)])) _
    refine X6.aaload hx (j := (1 : Int32)) (v := (.ref a_STARTED)) (by rw [e6]; exact Ar8.1) (State.isArrayOf_alike hZ.alike Ar8.2.1) rfl Ar8.2.2 hin8 hat8 (g := (mkF m 113 #[.val (.int p0), .val (.int p1), .val (.int p2), .val (.ref b66), .val (.int 3), .val (.int 1), .val (.ref a_CONSUMER), .val (.ref a_COMPLETED), .val (.int 1), .val (.int 1)] [(.int 1), (.ref b66), (.ref a_COMPLETED)])) rfl rfl (hb hby at_113) _ ?_
    refine XS.aload X6.here hx rfl (hb hby at_114) rfl rfl ?_
    show Steps p.tables e below (T6.setTop (mkF m 116 #[.val (.int p0), .val (.int p1), .val (.int p2), .val (.ref b66), .val (.int 3), .val (.int 1), .val (.ref a_CONSUMER), .val (.ref a_COMPLETED), .val (.int 1), .val (.int 1)] [(.ref a_CONSUMER), (.ref a_STARTED), (.ref a_COMPLETED)])) _
    refine st13.trans ?_
    refine XS.ifYes X13.here hx rfl (pc0 := 119) (pc' := 124) rfl (hb hby at_119) rfl (by decide) (by decide) (by decide) ?_
    refine XS.iconst X13.here hx rfl (hb hby at_124) ?_
    show Steps p.tables e below (T13.setTop (mkF m 125 #[.val (.int p0), .val (.int p1), .val (.int p2), .val (.ref b66), .val (.int 3), .val (.int 1), .val (.ref a_CONSUMER), .val (.ref a_COMPLETED), .val (.int 1), .val (.int 1)] [(.int 1)])) _
    exact retN X13 hx (t := .boolean) Bd.returns (by simp) (hb hby at_125) hr
  · show QT n0 _ T13.heap _
    exact ⟨rfl, N13⟩
def Q2_80 (Z : State)  (h0 : Heap) (n0 : Nat) (v : Option Value) (h : Heap) (L : List Loc) : Prop := v = (some (.int 0)) ∧ Fr n0 L ∧ Keep h0 h []
set_option maxRecDepth 65536 in
set_option maxHeartbeats 40000000 in
theorem rm2_79 (l : Launch) (Z : State) (a0 : Array Value) (hw : ∀ d ∈ tables_1, d.before a0 Z = true) (ws : List Jvm.Cond) (a_COMPLETED : Addr) (a_STARTED : Addr) (a_PROVIDER : Addr) (a_REQUESTED : Addr) (a_SUSPENDED : Addr) (h0 : Heap) (n0 : Nat) (Z0 : n0 ≤ h0.size) (f1 : F_0 Z h0 a_STARTED (.int 1)) (f2 : E_0 Z h0 a_STARTED) (f3 : S_0 Z h0 (.ref a_REQUESTED)) (f4 : a_REQUESTED ≠ a_COMPLETED) (f5 : S_2 Z h0 (.ref a_SUSPENDED)) (f6 : a_COMPLETED ≠ a_SUSPENDED) :
    MetFree l M_4 (head1 (Jvm.Cond.code M_4 prog_6_method_5_code 3 (some .boolean) :: ws) R_1_4_32_13) (fun a U => a = #[(.ref a_COMPLETED), (.ref a_STARTED), (.ref a_PROVIDER)] ∧ Z.Warmed39 U.vm ∧ U.heap = h0) (fun _ _ _ _ _ => True) (fun _ U o U' => ∃ v L, o = .returned v ∧ Q2_80 Z  h0 n0 v U'.heap L ∧ ReturnedEndW U o U' L R_1_4_32_13.cells R_1_4_32_13.slots) := by
  refine MetFree.of_bodySF (plainFor_of_name pn_com_example_offer_offer_model_TransferState) hisR ?_
  intro p e s m args below meth c s₁ Bd hml0 hP hK
  obtain ⟨rfl, hZ, hh⟩ := hP
  have hx := Bd.exec
  have hby := Bd.bytes
  have hml : c.maxLocals = 3 := hml0
  have hown : s.vm.findClass "com/example/offer/offer/model/TransferState" = some m.cls := findClass_of_methodNamed Bd.named
  have hnm := (name_of_methodNamed Bd.named Bd.method).1
  have X0 : Stand p l e R_1_4_32_13 s m #[(.ref a_COMPLETED), (.ref a_STARTED), (.ref a_PROVIDER)] below meth c s₁ [] 0 0 := Stand.of_body Bd
  have e0 : s₁.heap = h0 := by rw [← hh, Bd.state]; rfl
  have N0 := Fr.nil n0
  obtain ⟨ax77, T1, h1, kz1, X1, e1, E1, hS1, hk1, hZ1, hown1, st1⟩ := ldcS (s := s) (vm0 := s.vm) X0 hx hZ hown (tw_32 hw) (own_strs hw) e0 ((State.WarmedH.refl s).since 0) (Nat.zero_le _) (g := (mkF m 1 #[.val (.ref a_COMPLETED), .val (.ref a_STARTED), .val (.ref a_PROVIDER)] [(.ref a_STARTED)])) rfl (hb hby d2_1) (n := 16) (by decide) (by decide) (by decide) (by decide)
  have KK1 : Keep h0 h1 [] := (Keep.refl h0 []).ext E1
  -- pc 3: java/util/Objects.requireNonNull
  obtain ⟨_, _, ⟨T2, L2, k2, n2⟩, -, X2, ⟨Lc2, hQ2, l2, y2, z2⟩, st2⟩ := Jvm.LawKit.callS X1 hx (y := M_1) hown1 (mvT hZ1 (tw_40 hw)) (mvT hZ1 (tw_41 hw)) (mvT hZ1 (tw_42 hw)) (mvT hZ1 (tw_43 hw)) (by decide) (backOf (W := 0) (rm3_69 l Z a0 hw [] a_STARTED ax77 h1 n0 (Nat.le_trans Z0 KK1.1) ) hZ1 (tw_43 hw) (tw_42 hw) (by decide) (by decide)) (g := (mkF m 3 #[.val (.ref a_COMPLETED), .val (.ref a_STARTED), .val (.ref a_PROVIDER)] [(.ref ax77), (.ref a_STARTED)])) rfl (by rw [hml]; rfl) (argsL := [(.ref a_STARTED), (.ref ax77)]) (rest := []) (lenOf pd_1 rfl) rfl (by show 2 * 0 + _ ≤ _; exact Nat.le_of_eq rfl) (hb hby d2_3) (fun _ _ => ⟨rfl, e1, (by decide : 2 + 0 ≤ _), (by decide : 20 + 0 ≤ _)⟩)
  dsimp only [Pt.U, Pt.locs, Pt.cells, Pt.slots] at X2 l2 y2 z2 st2 hQ2
  subst l2 y2 z2
  obtain ⟨rfl, Nq2, e2⟩ := hQ2
  have N2 := Fr.app N0 Nq2
  obtain ⟨ax78, T3, h3, kz3, X3, e3, E3, hS3, hk3, hZ3, hown3, st3⟩ := ldcS (s := s) (vm0 := T1.vm) X2 hx hZ1 hown1 (tw_44 hw) (own_strs hw) e2 hS1 hk1 (g := (mkF m 8 #[.val (.ref a_COMPLETED), .val (.ref a_STARTED), .val (.ref a_PROVIDER)] [(.ref a_PROVIDER)])) rfl (hb hby d2_8) (n := 8) (by decide) (by decide) (by decide) (by decide)
  have KK3 : Keep h0 h3 [] := KK1.ext E3
  -- pc 10: java/util/Objects.requireNonNull
  obtain ⟨_, _, ⟨T4, L4, k4, n4⟩, -, X4, ⟨Lc4, hQ4, l4, y4, z4⟩, st4⟩ := Jvm.LawKit.callS X3 hx (y := M_1) hown3 (mvT hZ3 (tw_40 hw)) (mvT hZ3 (tw_41 hw)) (mvT hZ3 (tw_42 hw)) (mvT hZ3 (tw_43 hw)) (by decide) (backOf (W := 0) (rm3_62 l Z a0 hw [] a_PROVIDER ax78 h3 n0 (Nat.le_trans Z0 KK3.1) ) hZ3 (tw_43 hw) (tw_42 hw) (by decide) (by decide)) (g := (mkF m 10 #[.val (.ref a_COMPLETED), .val (.ref a_STARTED), .val (.ref a_PROVIDER)] [(.ref ax78), (.ref a_PROVIDER)])) rfl (by rw [hml]; rfl) (argsL := [(.ref a_PROVIDER), (.ref ax78)]) (rest := []) (lenOf pd_1 rfl) rfl (by show 2 * 0 + _ ≤ _; exact Nat.le_of_eq rfl) (hb hby d2_10) (fun _ _ => ⟨rfl, e3, (by decide : 4 + 0 ≤ _), (by decide : 32 + 0 ≤ _)⟩)
  dsimp only [Pt.U, Pt.locs, Pt.cells, Pt.slots] at X4 l4 y4 z4 st4 hQ4
  subst l4 y4 z4
  obtain ⟨rfl, Nq4, e4⟩ := hQ4
  have N4 := Fr.app N2 Nq4
  -- pc 15: java/lang/Enum.ordinal
  have u5 : F_0 Z h1 a_STARTED (.int 1) := Fld.ext E1 f1
  have u6 : F_0 Z h3 a_STARTED (.int 1) := Fld.ext E3 u5
  have u8 : E_0 Z h1 a_STARTED := Exa.ext E1 f2
  have u9 : E_0 Z h3 a_STARTED := Exa.ext E3 u8
  obtain ⟨cq7, kq7, q7a, q7b, q7c⟩ := isOf hZ3 e4 u9
  obtain ⟨_, _, ⟨T7, L7, k7, n7⟩, -, X7, ⟨Lc7, hQ7, l7, y7, z7⟩, st7⟩ := X4.virtualBackUp hx (x := M_3) (y := M_2) (owner := "java/lang/Enum") hown3 (mvT hZ3 (tw_45 hw)) (mvT hZ3 (tw_46 hw)) (mvT hZ3 (tw_47 hw)) (by decide) (mvT hZ3 (tw_49 hw)) (mvT hZ3 (tw_48 hw)) (backOf (W := 0) (rm4_71 l Z a0 hw [] a_STARTED h3 n0 (Nat.le_trans Z0 KK3.1) u6) hZ3 (tw_51 hw) (tw_50 hw) (by decide) (by decide)) q7a q7c (g := (mkF m 15 #[.val (.ref a_COMPLETED), .val (.ref a_STARTED), .val (.ref a_PROVIDER)] [(.ref a_STARTED)])) rfl (by rw [hml]; rfl) (Steps.refl _) (argsL := []) (rest := []) (lenOf pd_2 rfl) rfl (by show 2 * 0 + _ ≤ _; exact Nat.le_of_eq rfl) (hb hby d2_15) (fun _ _ => ⟨rfl, e4, (by decide : 4 + 0 ≤ _), (by decide : 32 + 0 ≤ _)⟩)
  dsimp only [Pt.U, Pt.locs, Pt.cells, Pt.slots] at X7 l7 y7 z7 st7 hQ7
  subst l7 y7 z7
  obtain ⟨rfl, Nq7, e7⟩ := hQ7
  have N7 := Fr.app N4 Nq7
  have u10 : S_0 Z h1 (.ref a_REQUESTED) := Sta.ext E1 f3
  have u11 : S_0 Z h3 (.ref a_REQUESTED) := Sta.ext E3 u10
  obtain ⟨T12, X12, e12, st12⟩ := getS2 X7 hx hZ3 hown3 (host := "") (Or.inl (tw_55 hw)) Via.refl e7 u11 (g := (mkF m 67 #[.val (.ref a_COMPLETED), .val (.ref a_STARTED), .val (.ref a_PROVIDER)] [(.ref a_COMPLETED)])) rfl (hb hby d2_67)
  have u13 : S_2 Z h1 (.ref a_SUSPENDED) := Sta.ext E1 f5
  have u14 : S_2 Z h3 (.ref a_SUSPENDED) := Sta.ext E3 u13
  obtain ⟨T15, X15, e15, st15⟩ := getS2 X12 hx hZ3 hown3 (host := "") (Or.inl (tw_56 hw)) Via.refl e12 u14 (g := (mkF m 81 #[.val (.ref a_COMPLETED), .val (.ref a_STARTED), .val (.ref a_PROVIDER)] [(.ref a_COMPLETED)])) rfl (hb hby d2_81)
  obtain ⟨fs, hr, hrun, hended, hRE⟩ := X15.leaveW hS3 (by rw [e15]; exact hk3) (v := (some (.int 0))) (fun h => by rw [Bd.returns] at h; cases h)
  refine ⟨_, _, castTop (ef2_RRR m a_COMPLETED a_STARTED a_PROVIDER) ?_, hrun, hended, _, _, rfl, ?_, hRE.1, hRE.2.1, hRE.2.2.1, hRE.2.2.2.mono (by decide) (by decide)⟩
  · show Steps p.tables e below (s₁.setTop (mkF m 0 #[.val (.ref a_COMPLETED), .val (.ref a_STARTED), .val (.ref a_PROVIDER)] [])) _
    refine XS.aloadN X0.here hx rfl (hb hby d2_0) rfl rfl ?_
    show Steps p.tables e below (s₁.setTop (mkF m 1 #[.val (.ref a_COMPLETED), .val (.ref a_STARTED), .val (.ref a_PROVIDER)] [(.ref a_STARTED)])) _
    refine st1 _ ?_
    show Steps p.tables e below (T1.setTop (mkF m 3 #[.val (.ref a_COMPLETED), .val (.ref a_STARTED), .val (.ref a_PROVIDER)] [(.ref ax77), (.ref a_STARTED)])) _
    refine st2 _ ?_
    refine XS.pop X2.here hx rfl (hb hby d2_6) rfl rfl ?_
    refine XS.aloadN X2.here hx rfl (hb hby d2_7) rfl rfl ?_
    show Steps p.tables e below (T2.setTop (mkF m 8 #[.val (.ref a_COMPLETED), .val (.ref a_STARTED), .val (.ref a_PROVIDER)] [(.ref a_PROVIDER)])) _
    refine st3 _ ?_
    show Steps p.tables e below (T3.setTop (mkF m 10 #[.val (.ref a_COMPLETED), .val (.ref a_STARTED), .val (.ref a_PROVIDER)] [(.ref ax78), (.ref a_PROVIDER)])) _
    refine st4 _ ?_
    refine XS.pop X4.here hx rfl (hb hby d2_13) rfl rfl ?_
    refine XS.aloadN X4.here hx rfl (hb hby d2_14) rfl rfl ?_
    show Steps p.tables e below (T4.setTop (mkF m 15 #[.val (.ref a_COMPLETED), .val (.ref a_STARTED), .val (.ref a_PROVIDER)] [(.ref a_STARTED)])) _
    refine st7.trans ?_
    show Steps p.tables e below (T7.setTop (mkF m 18 #[.val (.ref a_COMPLETED), .val (.ref a_STARTED), .val (.ref a_PROVIDER)] [(.int 1)])) _
    refine XS.tswIn X7.here hx rfl (pc0 := 18) (pc' := 66) (o := 48) rfl (hb hby d2_18) rfl (by decide) (by decide) (by decide) (by decide) ?_
    refine XS.aloadN X7.here hx rfl (hb hby d2_66) rfl rfl ?_
    show Steps p.tables e below (T7.setTop (mkF m 67 #[.val (.ref a_COMPLETED), .val (.ref a_STARTED), .val (.ref a_PROVIDER)] [(.ref a_COMPLETED)])) _
    refine st12 _ ?_
    show Steps p.tables e below (T12.setTop (mkF m 70 #[.val (.ref a_COMPLETED), .val (.ref a_STARTED), .val (.ref a_PROVIDER)] [(.ref a_REQUESTED), (.ref a_COMPLETED)])) _
    refine Jvm.RoadKit.acmp (g := (mkF m 70 #[.val (.ref a_COMPLETED), .val (.ref a_STARTED), .val (.ref a_PROVIDER)] [(.ref a_REQUESTED), (.ref a_COMPLETED)])) X12 hx rfl rfl rfl (pc0 := 70) (pc' := 80) (same := false) rfl (hb hby d2_70) rfl (decide_eq_false fun q => (Ne.symm f4) (Value.ref.inj q)) (by decide) (by decide) ?_
    refine XS.aloadN X12.here hx rfl (hb hby d2_80) rfl rfl ?_
    show Steps p.tables e below (T12.setTop (mkF m 81 #[.val (.ref a_COMPLETED), .val (.ref a_STARTED), .val (.ref a_PROVIDER)] [(.ref a_COMPLETED)])) _
    refine st15 _ ?_
    show Steps p.tables e below (T15.setTop (mkF m 84 #[.val (.ref a_COMPLETED), .val (.ref a_STARTED), .val (.ref a_PROVIDER)] [(.ref a_SUSPENDED), (.ref a_COMPLETED)])) _
    refine Jvm.RoadKit.acmp (g := (mkF m 84 #[.val (.ref a_COMPLETED), .val (.ref a_STARTED), .val (.ref a_PROVIDER)] [(.ref a_SUSPENDED), (.ref a_COMPLETED)])) X15 hx rfl rfl rfl (pc0 := 84) (pc' := 91) (same := false) rfl (hb hby d2_84) rfl (decide_eq_false fun q => f6 (Value.ref.inj q)) (by decide) (by decide) ?_
    refine XS.iconst X15.here hx rfl (hb hby d2_91) ?_
    refine XS.goto X15.here hx rfl (pc0 := 92) (pc' := 122) rfl (hb hby d2_92) (by decide) (by decide) ?_
    show Steps p.tables e below (T15.setTop (mkF m 122 #[.val (.ref a_COMPLETED), .val (.ref a_STARTED), .val (.ref a_PROVIDER)] [(.int 0)])) _
    exact retN X15 hx (t := .boolean) Bd.returns (by simp) (hb hby d2_122) hr
  · show Q2_80 Z  h0 n0 _ T15.heap _
    rw [e15]
    exact ⟨rfl, N7, KK3⟩
set_option maxRecDepth 65536 in
set_option maxHeartbeats 40000000 in
theorem rm0_81 (l : Launch) (Z : State) (a0 : Array Value) (hw : ∀ d ∈ tables_1, d.before a0 Z = true) (ws : List Jvm.Cond) (p0 : Int32) (p1 : Int32) (p2 : Int32) (a_REQUESTED : Addr) (a_STARTED : Addr) (a_SUSPENDED : Addr) (a_COMPLETED : Addr) (a_TERMINATED : Addr) (a_PROVIDER : Addr) (h0 : Heap) (n0 : Nat) (Z0 : n0 ≤ h0.size) (f1 : S_0 Z h0 (.ref a_REQUESTED)) (f2 : E_0 Z h0 a_REQUESTED) (f3 : S_1 Z h0 (.ref a_STARTED)) (f4 : E_0 Z h0 a_STARTED) (f5 : S_2 Z h0 (.ref a_SUSPENDED)) (f6 : E_0 Z h0 a_SUSPENDED) (f7 : S_3 Z h0 (.ref a_COMPLETED)) (f8 : E_0 Z h0 a_COMPLETED) (f9 : S_4 Z h0 (.ref a_TERMINATED)) (f10 : E_0 Z h0 a_TERMINATED) (f11 : ((p0 &&& (2147483647 : Int32)) % (5 : Int32)) = (3 : Int32)) (f12 : ((p1 &&& (2147483647 : Int32)) % (5 : Int32)) = (1 : Int32)) (f13 : ¬ ((p2 &&& (1 : Int32)) = (0 : Int32))) (f14 : S_6 Z h0 (.ref a_PROVIDER)) (f15 : F_0 Z h0 a_STARTED (.int 1)) (f16 : a_REQUESTED ≠ a_COMPLETED) (f17 : a_COMPLETED ≠ a_SUSPENDED) :
    MetFree l x (head1 (Jvm.Cond.code x code maxLocals ret :: ws) room_1) (fun a U => a = #[(.int p0), (.int p1), (.int p2)] ∧ Z.Warmed39 U.vm ∧ U.heap = h0) (fun _ _ _ _ _ => True) (fun _ U o U' => ∃ v L, o = .returned v ∧ QT n0 v U'.heap L ∧ ReturnedEndW U o U' L room_1.cells room_1.slots) := by
  refine MetFree.of_bodySF (plainFor_of_name pn_com_example_offer_offer_model_TransferStateIsFinalPinLaw) hisR ?_
  intro p e s m args below meth c s₁ Bd hml0 hP hK
  obtain ⟨rfl, hZ, hh⟩ := hP
  have hx := Bd.exec
  have hby := Bd.bytes
  have hml : c.maxLocals = 10 := hml0
  have hown : s.vm.findClass "com/example/offer/offer/model/TransferStateIsFinalPinLaw" = some m.cls := findClass_of_methodNamed Bd.named
  have hnm := (name_of_methodNamed Bd.named Bd.method).1
  have X0 : Stand p l e room_1 s m #[(.int p0), (.int p1), (.int p2)] below meth c s₁ [] 0 0 := Stand.of_body Bd
  have e0 : s₁.heap = h0 := by rw [← hh, Bd.state]; rfl
  have N0 := Fr.nil n0
  obtain ⟨T1, h1, L1, b75, kc76, X1, e1, N1, K1, le_b75, o1_0, o1_1, st1⟩ := sg0_25 p0 p1 p2 a_REQUESTED a_STARTED a_SUSPENDED a_COMPLETED a_TERMINATED X0 hx hZ hw hby hml hown e0 N0 Z0 f1 f2 f3 f4 f5 f6 f7 f8 f9 f10
  have sz_b75 : h0.size ≤ b75 := Nat.le_trans (Nat.le_refl _) le_b75
  have g_b75 : n0 ≤ b75 := Nat.le_trans Z0 sz_b75
  have KK1 : Keep h0 h1 [] := (Keep.refl h0 []).trans K1 (fun x hx => nomatch hx)
  have u2 : S_6 Z h1 (.ref a_PROVIDER) := own_sta_keep f14 K1 (fun _ q => nomatch q)
  obtain ⟨T3, X3, e3, st3⟩ := getS2 X1 hx hZ hown (host := "") (Or.inl (tw_25 hw)) Via.refl e1 u2 (g := (mkF m 57 #[.val (.int p0), .val (.int p1), .val (.int p2), .val (.ref b75), .val (.int 3), .val (.int 1), .unset, .unset, .unset, .unset] [])) rfl (hb hby at_57)
  have va4 := o1_0
  obtain ⟨cl4, Ar4, -, S4, -, H4, -⟩ := va4
  have hin4 : ¬ ((3 : Int32) < 0 ∨ cl4.slots.size ≤ ((3 : Int32)).toNatClampNeg) := inb_of S4 ⟨by decide, by decide⟩
  have hat4 : cl4.slots[((3 : Int32)).toNatClampNeg]? = some (.ref a_COMPLETED) := H4 _ (Nat.lt_of_not_le fun y => hin4 (Or.inr y))
  -- pc 76: com/example/offer/offer/model/TransferState.isFinal
  have u5 : S_3 Z h1 (.ref a_COMPLETED) := own_sta_keep f7 K1 (fun _ q => nomatch q)
  have u7 : E_0 Z h1 a_COMPLETED := Exa.keep f8 K1
  obtain ⟨cq6, kq6, q6a, q6b, q6c⟩ := isOf hZ e3 u7
  obtain ⟨_, _, ⟨T6, L6, k6, n6⟩, -, X6, ⟨Lc6, hQ6, l6, y6, z6⟩, st6⟩ := X3.virtualBack hx (y := M_0) (z := M_0) hown (mvT hZ (tw_18 hw)) (mvT hZ (tw_19 hw)) (notFace_of_selects (args := #[]) (mvT hZ (tw_21 hw))) (mvT hZ (tw_21 hw)) (mvT hZ (tw_20 hw)) (by decide) (backOf (W := 0) (rm1_49 l Z a0 hw [] a_COMPLETED h1 n0 (Nat.le_trans Z0 KK1.1) u5) hZ (tw_22 hw) (tw_3 hw) (by decide) (by decide)) q6a q6c (g := (mkF m 76 #[.val (.int p0), .val (.int p1), .val (.int p2), .val (.ref b75), .val (.int 3), .val (.int 1), .val (.ref a_PROVIDER), .val (.ref a_COMPLETED), .unset, .unset] [(.ref a_COMPLETED)])) rfl (by rw [hml]; rfl) (Steps.refl _) (argsL := []) (rest := []) (lenOf pd_0 rfl) rfl (by show 2 * 0 + _ ≤ _; exact Nat.le_of_eq rfl) (hb hby at_76) (fun _ _ => ⟨rfl, e3, (by decide : 1 + 0 ≤ _), (by decide : 5 + 0 ≤ _)⟩)
  dsimp only [Pt.U, Pt.locs, Pt.cells, Pt.slots] at X6 l6 y6 z6 st6 hQ6
  subst l6 y6 z6
  obtain ⟨rfl, Nq6, e6⟩ := hQ6
  have N6 := Fr.app N1 Nq6
  have va8 := o1_0
  obtain ⟨cl8, Ar8, -, S8, -, H8, -⟩ := va8
  have hin8 : ¬ ((1 : Int32) < 0 ∨ cl8.slots.size ≤ ((1 : Int32)).toNatClampNeg) := inb_of S8 ⟨by decide, by decide⟩
  have hat8 : cl8.slots[((1 : Int32)).toNatClampNeg]? = some (.ref a_STARTED) := H8 _ (Nat.lt_of_not_le fun y => hin8 (Or.inr y))
  -- pc 116: com/example/offer/offer/model/TransferState.canMoveTo
  have u9 : F_0 Z h1 a_STARTED (.int 1) := Fld.keep f15 K1 List.not_mem_nil
  have u10 : E_0 Z h1 a_STARTED := Exa.keep f4 K1
  have u11 : S_0 Z h1 (.ref a_REQUESTED) := own_sta_keep f1 K1 (fun _ q => nomatch q)
  have u12 : S_2 Z h1 (.ref a_SUSPENDED) := own_sta_keep f5 K1 (fun _ q => nomatch q)
  obtain ⟨cq13, kq13, q13a, q13b, q13c⟩ := isOf hZ e6 u7
  obtain ⟨_, _, ⟨T13, L13, k13, n13⟩, -, X13, hS13, hg13, ⟨Lc13, hQ13, l13, y13, z13⟩, st13⟩ := X6.virtualBackS hx (y := M_4) (z := M_4) hown (mvT hZ (tw_27 hw)) (mvT hZ (tw_28 hw)) (notFace_of_selects (args := #[]) (mvT hZ (tw_30 hw))) (mvT hZ (tw_30 hw)) (mvT hZ (tw_29 hw)) (by decide) (backOfS (W := 0) (rm2_79 l Z a0 hw [] a_COMPLETED a_STARTED a_PROVIDER a_REQUESTED a_SUSPENDED h1 n0 (Nat.le_trans Z0 KK1.1) u9 u10 u11 f16 u12 f17) hZ (tw_31 hw) (tw_3 hw) (by decide) (by decide)) q13a q13c (g := (mkF m 116 #[.val (.int p0), .val (.int p1), .val (.int p2), .val (.ref b75), .val (.int 3), .val (.int 1), .val (.ref a_PROVIDER), .val (.ref a_COMPLETED), .val (.int 1), .val (.int 1)] [(.ref a_PROVIDER), (.ref a_STARTED), (.ref a_COMPLETED)])) rfl (by rw [hml]; rfl) (Steps.refl _) (argsL := [(.ref a_STARTED), (.ref a_PROVIDER)]) (rest := []) (lenOf pd_3 rfl) rfl (by show 2 * 0 + _ ≤ _; exact Nat.le_of_eq rfl) (hb hby at_116) (fun _ _ => ⟨rfl, e6, (by decide : 1 + 4 ≤ _), (by decide : 5 + 32 ≤ _)⟩)
  dsimp only [Pt.U, Pt.locs, Pt.cells, Pt.slots] at X13 l13 y13 z13 st13 hQ13 hS13 hg13
  subst l13 y13 z13
  have hZ13 : Z.Warmed39 (s.setVm T13.vm).vm := State.Warmed39.trans hZ hS13.1
  have hown13 : (s.setVm T13.vm).vm.findClass "com/example/offer/offer/model/TransferStateIsFinalPinLaw" = some m.cls := by rw [show (s.setVm T13.vm).vm = T13.vm from rfl, hS13.1.alike.findClass]; exact hown
  obtain ⟨rfl, Nq13, K13⟩ := hQ13
  have N13 := Fr.app N6 Nq13
  have KK13 : Keep h0 T13.heap [] := KK1.trans K13 (fun x hx => nomatch hx)
  obtain ⟨fs, hr, hrun, hended, hRE⟩ := X13.leaveW hS13 (by exact (Nat.le_refl _)) (v := (some (.int 1))) (fun h => by rw [Bd.returns] at h; cases h)
  refine ⟨_, _, castTop (ef0_III m p0 p1 p2) ?_, hrun, hended, _, _, rfl, ?_, hRE.1, hRE.2.1, hRE.2.2.1, hRE.2.2.2.mono (by decide) (by decide)⟩
  · show Steps p.tables e below (s₁.setTop (mkF m 0 #[.val (.int p0), .val (.int p1), .val (.int p2), .unset, .unset, .unset, .unset, .unset, .unset, .unset] [])) _
    refine st1 _ ?_
    refine XS.iloadN X1.here hx rfl (hb hby at_35) rfl ?_
    show Steps p.tables e below (T1.setTop (mkF m 36 #[.val (.int p0), .val (.int p1), .val (.int p2), .val (.ref b75), .unset, .unset, .unset, .unset, .unset, .unset] [(.int p0)])) _
    refine X1.ldcInt hx hown (mvT hZ (tw_14 hw)) (g := (mkF m 36 #[.val (.int p0), .val (.int p1), .val (.int p2), .val (.ref b75), .unset, .unset, .unset, .unset, .unset, .unset] [(.int p0)])) rfl (hb hby at_36) _ ?_
    show Steps p.tables e below (T1.setTop (mkF m 38 #[.val (.int p0), .val (.int p1), .val (.int p2), .val (.ref b75), .unset, .unset, .unset, .unset, .unset, .unset] [(.int 2147483647), (.int p0)])) _
    refine XS.iand X1.here hx rfl (hb hby at_38) rfl ?_
    refine XS.iconst X1.here hx rfl (hb hby at_39) ?_
    show Steps p.tables e below (T1.setTop (mkF m 40 #[.val (.int p0), .val (.int p1), .val (.int p2), .val (.ref b75), .unset, .unset, .unset, .unset, .unset, .unset] [(.int 5), (.int (p0 &&& (2147483647 : Int32)))])) _
    refine iremM X1 hx rfl (hb hby at_40) rfl (by decide) ?_
    show Steps p.tables e below (T1.setTop (mkF m 41 #[.val (.int p0), .val (.int p1), .val (.int p2), .val (.ref b75), .unset, .unset, .unset, .unset, .unset, .unset] [(.int ((p0 &&& (2147483647 : Int32)) % (5 : Int32)))])) _
    rw [f11]
    refine XS.istore X1.here hx rfl (hb hby at_41) rfl (l' := #[.val (.int p0), .val (.int p1), .val (.int p2), .val (.ref b75), .val (.int 3), .unset, .unset, .unset, .unset, .unset]) rfl ?_
    refine XS.iloadN X1.here hx rfl (hb hby at_43) rfl ?_
    show Steps p.tables e below (T1.setTop (mkF m 44 #[.val (.int p0), .val (.int p1), .val (.int p2), .val (.ref b75), .val (.int 3), .unset, .unset, .unset, .unset, .unset] [(.int p1)])) _
    refine X1.ldcInt hx hown (mvT hZ (tw_14 hw)) (g := (mkF m 44 #[.val (.int p0), .val (.int p1), .val (.int p2), .val (.ref b75), .val (.int 3), .unset, .unset, .unset, .unset, .unset] [(.int p1)])) rfl (hb hby at_44) _ ?_
    show Steps p.tables e below (T1.setTop (mkF m 46 #[.val (.int p0), .val (.int p1), .val (.int p2), .val (.ref b75), .val (.int 3), .unset, .unset, .unset, .unset, .unset] [(.int 2147483647), (.int p1)])) _
    refine XS.iand X1.here hx rfl (hb hby at_46) rfl ?_
    refine XS.iconst X1.here hx rfl (hb hby at_47) ?_
    show Steps p.tables e below (T1.setTop (mkF m 48 #[.val (.int p0), .val (.int p1), .val (.int p2), .val (.ref b75), .val (.int 3), .unset, .unset, .unset, .unset, .unset] [(.int 5), (.int (p1 &&& (2147483647 : Int32)))])) _
    refine iremM X1 hx rfl (hb hby at_48) rfl (by decide) ?_
    show Steps p.tables e below (T1.setTop (mkF m 49 #[.val (.int p0), .val (.int p1), .val (.int p2), .val (.ref b75), .val (.int 3), .unset, .unset, .unset, .unset, .unset] [(.int ((p1 &&& (2147483647 : Int32)) % (5 : Int32)))])) _
    rw [f12]
    refine XS.istore X1.here hx rfl (hb hby at_49) rfl (l' := #[.val (.int p0), .val (.int p1), .val (.int p2), .val (.ref b75), .val (.int 3), .val (.int 1), .unset, .unset, .unset, .unset]) rfl ?_
    refine XS.iloadN X1.here hx rfl (hb hby at_51) rfl ?_
    refine XS.iconst X1.here hx rfl (hb hby at_52) ?_
    show Steps p.tables e below (T1.setTop (mkF m 53 #[.val (.int p0), .val (.int p1), .val (.int p2), .val (.ref b75), .val (.int 3), .val (.int 1), .unset, .unset, .unset, .unset] [(.int 1), (.int p2)])) _
    refine XS.iand X1.here hx rfl (hb hby at_53) rfl ?_
    refine XS.ifNo X1.here hx rfl (hb hby at_54) rfl ((if0 _ _).trans (feq (f13 : ¬ ((p2 &&& (1 : Int32)) = (0 : Int32)))).1) ?_
    show Steps p.tables e below (T1.setTop (mkF m 57 #[.val (.int p0), .val (.int p1), .val (.int p2), .val (.ref b75), .val (.int 3), .val (.int 1), .unset, .unset, .unset, .unset] [])) _
    refine st3 _ ?_
    refine XS.goto X3.here hx rfl (pc0 := 60) (pc' := 66) rfl (hb hby at_60) (by decide) (by decide) ?_
    refine XS.astore X3.here hx rfl (hb hby at_66) rfl rfl (l' := #[.val (.int p0), .val (.int p1), .val (.int p2), .val (.ref b75), .val (.int 3), .val (.int 1), .val (.ref a_PROVIDER), .unset, .unset, .unset]) rfl ?_
    refine XS.aloadN X3.here hx rfl (hb hby at_68) rfl rfl ?_
    refine XS.iload X3.here hx rfl (hb hby at_69) rfl ?_
    show Steps p.tables e below (T3.setTop (mkF m 71 #[.val (.int p0), .val (.int p1), .val (.int p2), .val (.ref b75), .val (.int 3), .val (.int 1), .val (.ref a_PROVIDER), .unset, .unset, .unset] [(.int 3), (.ref b75)])) _
    refine X3.aaload hx (j := (3 : Int32)) (v := (.ref a_COMPLETED)) (by rw [e3]; exact Ar4.1) (State.isArrayOf_alike hZ.alike Ar4.2.1) rfl Ar4.2.2 hin4 hat4 (g := (mkF m 71 #[.val (.int p0), .val (.int p1), .val (.int p2), .val (.ref b75), .val (.int 3), .val (.int 1), .val (.ref a_PROVIDER), .unset, .unset, .unset] [(.int 3), (.ref b75)])) rfl rfl (hb hby at_71) _ ?_
    refine XS.astore X3.here hx rfl (hb hby at_72) rfl rfl (l' := #[.val (.int p0), .val (.int p1), .val (.int p2), .val (.ref b75), .val (.int 3), .val (.int 1), .val (.ref a_PROVIDER), .val (.ref a_COMPLETED), .unset, .unset]) rfl ?_
    refine XS.aload X3.here hx rfl (hb hby at_74) rfl rfl ?_
    show Steps p.tables e below (T3.setTop (mkF m 76 #[.val (.int p0), .val (.int p1), .val (.int p2), .val (.ref b75), .val (.int 3), .val (.int 1), .val (.ref a_PROVIDER), .val (.ref a_COMPLETED), .unset, .unset] [(.ref a_COMPLETED)])) _
    refine st6.trans ?_
    refine XS.istore X6.here hx rfl (hb hby at_79) rfl (l' := #[.val (.int p0), .val (.int p1), .val (.int p2), .val (.ref b75), .val (.int 3), .val (.int 1), .val (.ref a_PROVIDER), .val (.ref a_COMPLETED), .val (.int 1), .unset]) rfl ?_
    refine XS.iload X6.here hx rfl (hb hby at_81) rfl ?_
    refine XS.iconst X6.here hx rfl (hb hby at_83) ?_
    refine XS.icmpNo X6.here hx rfl (hb hby at_84) rfl (by decide) ?_
    show Steps p.tables e below (T6.setTop (mkF m 87 #[.val (.int p0), .val (.int p1), .val (.int p2), .val (.ref b75), .val (.int 3), .val (.int 1), .val (.ref a_PROVIDER), .val (.ref a_COMPLETED), .val (.int 1), .unset] [])) _
    refine XS.iconst X6.here hx rfl (hb hby at_87) ?_
    refine XS.goto X6.here hx rfl (pc0 := 88) (pc' := 92) rfl (hb hby at_88) (by decide) (by decide) ?_
    refine XS.istore X6.here hx rfl (hb hby at_92) rfl (l' := #[.val (.int p0), .val (.int p1), .val (.int p2), .val (.ref b75), .val (.int 3), .val (.int 1), .val (.ref a_PROVIDER), .val (.ref a_COMPLETED), .val (.int 1), .val (.int 1)]) rfl ?_
    refine XS.iload X6.here hx rfl (hb hby at_94) rfl ?_
    refine XS.iload X6.here hx rfl (hb hby at_96) rfl ?_
    show Steps p.tables e below (T6.setTop (mkF m 98 #[.val (.int p0), .val (.int p1), .val (.int p2), .val (.ref b75), .val (.int 3), .val (.int 1), .val (.ref a_PROVIDER), .val (.ref a_COMPLETED), .val (.int 1), .val (.int 1)] [(.int 1), (.int 1)])) _
    refine XS.icmpYes X6.here hx rfl (pc0 := 98) (pc' := 103) rfl (hb hby at_98) rfl (by decide) (by decide) (by decide) ?_
    refine XS.iload X6.here hx rfl (hb hby at_103) rfl ?_
    refine XS.ifNo X6.here hx rfl (hb hby at_105) rfl (by decide) ?_
    refine XS.aload X6.here hx rfl (hb hby at_108) rfl rfl ?_
    refine XS.aloadN X6.here hx rfl (hb hby at_110) rfl rfl ?_
    show Steps p.tables e below (T6.setTop (mkF m 111 #[.val (.int p0), .val (.int p1), .val (.int p2), .val (.ref b75), .val (.int 3), .val (.int 1), .val (.ref a_PROVIDER), .val (.ref a_COMPLETED), .val (.int 1), .val (.int 1)] [(.ref b75), (.ref a_COMPLETED)])) _
    refine XS.iload X6.here hx rfl (hb hby at_111) rfl ?_
    show Steps p.tables e below (T6.setTop (mkF m 113 #[.val (.int p0), .val (.int p1), .val (.int p2), .val (.ref b75), .val (.int 3), .val (.int 1), .val (.ref a_PROVIDER), .val (.ref a_COMPLETED), .val (.int 1), .val (.int 1)] [(.int 1), (.ref b75), (.ref a_COMPLETED)])) _
    refine X6.aaload hx (j := (1 : Int32)) (v := (.ref a_STARTED)) (by rw [e6]; exact Ar8.1) (State.isArrayOf_alike hZ.alike Ar8.2.1) rfl Ar8.2.2 hin8 hat8 (g := (mkF m 113 #[.val (.int p0), .val (.int p1), .val (.int p2), .val (.ref b75), .val (.int 3), .val (.int 1), .val (.ref a_PROVIDER), .val (.ref a_COMPLETED), .val (.int 1), .val (.int 1)] [(.int 1), (.ref b75), (.ref a_COMPLETED)])) rfl rfl (hb hby at_113) _ ?_
    refine XS.aload X6.here hx rfl (hb hby at_114) rfl rfl ?_
    show Steps p.tables e below (T6.setTop (mkF m 116 #[.val (.int p0), .val (.int p1), .val (.int p2), .val (.ref b75), .val (.int 3), .val (.int 1), .val (.ref a_PROVIDER), .val (.ref a_COMPLETED), .val (.int 1), .val (.int 1)] [(.ref a_PROVIDER), (.ref a_STARTED), (.ref a_COMPLETED)])) _
    refine st13.trans ?_
    refine XS.ifYes X13.here hx rfl (pc0 := 119) (pc' := 124) rfl (hb hby at_119) rfl (by decide) (by decide) (by decide) ?_
    refine XS.iconst X13.here hx rfl (hb hby at_124) ?_
    show Steps p.tables e below (T13.setTop (mkF m 125 #[.val (.int p0), .val (.int p1), .val (.int p2), .val (.ref b75), .val (.int 3), .val (.int 1), .val (.ref a_PROVIDER), .val (.ref a_COMPLETED), .val (.int 1), .val (.int 1)] [(.int 1)])) _
    exact retN X13 hx (t := .boolean) Bd.returns (by simp) (hb hby at_125) hr
  · show QT n0 _ T13.heap _
    exact ⟨rfl, N13⟩
set_option maxRecDepth 65536 in
set_option maxHeartbeats 40000000 in
theorem rm3_85 (l : Launch) (Z : State) (a0 : Array Value) (hw : ∀ d ∈ tables_1, d.before a0 Z = true) (ws : List Jvm.Cond) (a_SUSPENDED : Addr) (c0_a : Addr) (h0 : Heap) (n0 : Nat) (Z0 : n0 ≤ h0.size) :
    MetFree l M_1 (head1 (Jvm.Cond.code M_1 jdk_31_method_11_code 2 (some (.object "java/lang/Object")) :: ws) R_0_0_0_0) (fun a U => a = #[(.ref a_SUSPENDED), (.ref c0_a)] ∧ Z.Warmed39 U.vm ∧ U.heap = h0) (fun _ _ _ _ _ => True) (fun _ U o U' => ∃ v L, o = .returned v ∧ QP (some (.ref a_SUSPENDED)) h0 n0 v U'.heap L ∧ FrameEnd U o U' L R_0_0_0_0.cells R_0_0_0_0.slots) := by
  refine MetFree.of_bodySF (plainFor_of_name pn_java_util_Objects) hisR ?_
  intro p e s m args below meth c s₁ Bd hml0 hP hK
  obtain ⟨rfl, hZ, hh⟩ := hP
  have hx := Bd.exec
  have hby := Bd.bytes
  have hml : c.maxLocals = 2 := hml0
  have hown : s.vm.findClass "java/util/Objects" = some m.cls := findClass_of_methodNamed Bd.named
  have hnm := (name_of_methodNamed Bd.named Bd.method).1
  have X0 : Stand p l e R_0_0_0_0 s m #[(.ref a_SUSPENDED), (.ref c0_a)] below meth c s₁ [] 0 0 := Stand.of_body Bd
  have e0 : s₁.heap = h0 := by rw [← hh, Bd.state]; rfl
  have N0 := Fr.nil n0
  obtain ⟨fs, hr, hrun, hended, hW, hsame⟩ := X0.leave (v := (some (.ref a_SUSPENDED))) (fun h => by rw [Bd.returns] at h; cases h)
  refine ⟨_, _, castTop (ef3_RR m a_SUSPENDED c0_a) ?_, hrun, hended, _, _, rfl, ?_, ⟨_, rfl⟩, hW, hsame.mono (by decide) (by decide)⟩
  · show Steps p.tables e below (s₁.setTop (mkF m 0 #[.val (.ref a_SUSPENDED), .val (.ref c0_a)] [])) _
    refine XS.aloadN X0.here hx rfl (hb hby d3_0) rfl rfl ?_
    refine XS.ifnonnullYes X0.here hx rfl (pc0 := 1) (pc' := 13) rfl (hb hby d3_1) rfl (by decide) (by decide) ?_
    refine XS.aloadN X0.here hx rfl (hb hby d3_13) rfl rfl ?_
    show Steps p.tables e below (s₁.setTop (mkF m 14 #[.val (.ref a_SUSPENDED), .val (.ref c0_a)] [(.ref a_SUSPENDED)])) _
    jvm_step X0.here [X0.here.top, hx, (hb hby d3_14), X0.method', Bd.returns, Value.isRef, FieldType.isReference]
    first | (intro acts; rw [hr _ acts rfl rfl rfl]) | rw [hr _ _ rfl rfl rfl]
    exact Steps.refl _
  · show QP (some (.ref a_SUSPENDED)) h0 n0 _ s₁.heap _
    rw [e0]
    exact ⟨rfl, N0, rfl⟩
set_option maxRecDepth 65536 in
set_option maxHeartbeats 40000000 in
theorem rm4_87 (l : Launch) (Z : State) (a0 : Array Value) (hw : ∀ d ∈ tables_1, d.before a0 Z = true) (ws : List Jvm.Cond) (a_SUSPENDED : Addr) (h0 : Heap) (n0 : Nat) (Z0 : n0 ≤ h0.size) (f1 : F_0 Z h0 a_SUSPENDED (.int 2)) :
    MetFree l M_2 (head1 (Jvm.Cond.code M_2 jdk_37_method_2_code 1 (some .int) :: ws) R_0_0_0_0) (fun a U => a = #[(.ref a_SUSPENDED)] ∧ Z.Warmed39 U.vm ∧ U.heap = h0) (fun _ _ _ _ _ => True) (fun _ U o U' => ∃ v L, o = .returned v ∧ QP (some (.int 2)) h0 n0 v U'.heap L ∧ FrameEnd U o U' L R_0_0_0_0.cells R_0_0_0_0.slots) := by
  refine MetFree.of_bodySF (plainFor_of_name pn_java_lang_Enum) hisR ?_
  intro p e s m args below meth c s₁ Bd hml0 hP hK
  obtain ⟨rfl, hZ, hh⟩ := hP
  have hx := Bd.exec
  have hby := Bd.bytes
  have hml : c.maxLocals = 1 := hml0
  have hown : s.vm.findClass "java/lang/Enum" = some m.cls := findClass_of_methodNamed Bd.named
  have hnm := (name_of_methodNamed Bd.named Bd.method).1
  have X0 : Stand p l e R_0_0_0_0 s m #[(.ref a_SUSPENDED)] below meth c s₁ [] 0 0 := Stand.of_body Bd
  have e0 : s₁.heap = h0 := by rw [← hh, Bd.state]; rfl
  have N0 := Fr.nil n0
  obtain ⟨T1, X1, e1, st1⟩ := getF X0 hx hZ hown (host := "") (Or.inl (tw_52 hw)) Via.refl e0 f1 (g := (mkF m 1 #[.val (.ref a_SUSPENDED)] [(.ref a_SUSPENDED)])) rfl rfl (hb hby d4_1)
  obtain ⟨fs, hr, hrun, hended, hW, hsame⟩ := X1.leave (v := (some (.int 2))) (fun h => by rw [Bd.returns] at h; cases h)
  refine ⟨_, _, castTop (ef4_R m a_SUSPENDED) ?_, hrun, hended, _, _, rfl, ?_, ⟨_, rfl⟩, hW, hsame.mono (by decide) (by decide)⟩
  · show Steps p.tables e below (s₁.setTop (mkF m 0 #[.val (.ref a_SUSPENDED)] [])) _
    refine XS.aloadN X0.here hx rfl (hb hby d4_0) rfl rfl ?_
    show Steps p.tables e below (s₁.setTop (mkF m 1 #[.val (.ref a_SUSPENDED)] [(.ref a_SUSPENDED)])) _
    refine st1 _ ?_
    show Steps p.tables e below (T1.setTop (mkF m 4 #[.val (.ref a_SUSPENDED)] [(.int 2)])) _
    exact retI X1 hx Bd.returns (hb hby d4_4) hr
  · show QP (some (.int 2)) h0 n0 _ T1.heap _
    rw [e1]
    exact ⟨rfl, N0, rfl⟩
theorem d2_95 : decode prog_6_method_5_code 95 = .ok (.aload_n 0, 1) := by decide +kernel
theorem d2_96 : decode prog_6_method_5_code 96 = .ok (.getstatic 7, 3) := by decide +kernel
theorem tw_57 {a0 : Array Value} {Z : State} (hw : ∀ d ∈ tables_1, d.before a0 Z = true) : (Jvm.Cond.fieldLink "com/example/offer/offer/model/TransferState" (7 : Nat) "com/example/offer/offer/model/TransferState" "STARTED" "Lcom/example/offer/offer/model/TransferState;").before a0 Z = true := hw _ (List.mem_of_getElem? (i := 57) rfl)
theorem d2_99 : decode prog_6_method_5_code 99 = .ok (.if_acmp .ne 7, 3) := by decide +kernel
theorem d2_106 : decode prog_6_method_5_code 106 = .ok (.iconst 0, 1) := by decide +kernel
theorem d2_107 : decode prog_6_method_5_code 107 = .ok (.goto 15, 3) := by decide +kernel
def Q2_89 (Z : State)  (h0 : Heap) (n0 : Nat) (v : Option Value) (h : Heap) (L : List Loc) : Prop := v = (some (.int 0)) ∧ Fr n0 L ∧ Keep h0 h []
set_option maxRecDepth 65536 in
set_option maxHeartbeats 40000000 in
theorem rm2_88 (l : Launch) (Z : State) (a0 : Array Value) (hw : ∀ d ∈ tables_1, d.before a0 Z = true) (ws : List Jvm.Cond) (a_COMPLETED : Addr) (a_SUSPENDED : Addr) (a_CONSUMER : Addr) (a_STARTED : Addr) (h0 : Heap) (n0 : Nat) (Z0 : n0 ≤ h0.size) (f1 : F_0 Z h0 a_SUSPENDED (.int 2)) (f2 : E_0 Z h0 a_SUSPENDED) (f3 : S_1 Z h0 (.ref a_STARTED)) (f4 : a_COMPLETED ≠ a_STARTED) :
    MetFree l M_4 (head1 (Jvm.Cond.code M_4 prog_6_method_5_code 3 (some .boolean) :: ws) R_1_4_32_13) (fun a U => a = #[(.ref a_COMPLETED), (.ref a_SUSPENDED), (.ref a_CONSUMER)] ∧ Z.Warmed39 U.vm ∧ U.heap = h0) (fun _ _ _ _ _ => True) (fun _ U o U' => ∃ v L, o = .returned v ∧ Q2_89 Z  h0 n0 v U'.heap L ∧ ReturnedEndW U o U' L R_1_4_32_13.cells R_1_4_32_13.slots) := by
  refine MetFree.of_bodySF (plainFor_of_name pn_com_example_offer_offer_model_TransferState) hisR ?_
  intro p e s m args below meth c s₁ Bd hml0 hP hK
  obtain ⟨rfl, hZ, hh⟩ := hP
  have hx := Bd.exec
  have hby := Bd.bytes
  have hml : c.maxLocals = 3 := hml0
  have hown : s.vm.findClass "com/example/offer/offer/model/TransferState" = some m.cls := findClass_of_methodNamed Bd.named
  have hnm := (name_of_methodNamed Bd.named Bd.method).1
  have X0 : Stand p l e R_1_4_32_13 s m #[(.ref a_COMPLETED), (.ref a_SUSPENDED), (.ref a_CONSUMER)] below meth c s₁ [] 0 0 := Stand.of_body Bd
  have e0 : s₁.heap = h0 := by rw [← hh, Bd.state]; rfl
  have N0 := Fr.nil n0
  obtain ⟨ax84, T1, h1, kz1, X1, e1, E1, hS1, hk1, hZ1, hown1, st1⟩ := ldcS (s := s) (vm0 := s.vm) X0 hx hZ hown (tw_32 hw) (own_strs hw) e0 ((State.WarmedH.refl s).since 0) (Nat.zero_le _) (g := (mkF m 1 #[.val (.ref a_COMPLETED), .val (.ref a_SUSPENDED), .val (.ref a_CONSUMER)] [(.ref a_SUSPENDED)])) rfl (hb hby d2_1) (n := 16) (by decide) (by decide) (by decide) (by decide)
  have KK1 : Keep h0 h1 [] := (Keep.refl h0 []).ext E1
  -- pc 3: java/util/Objects.requireNonNull
  obtain ⟨_, _, ⟨T2, L2, k2, n2⟩, -, X2, ⟨Lc2, hQ2, l2, y2, z2⟩, st2⟩ := Jvm.LawKit.callS X1 hx (y := M_1) hown1 (mvT hZ1 (tw_40 hw)) (mvT hZ1 (tw_41 hw)) (mvT hZ1 (tw_42 hw)) (mvT hZ1 (tw_43 hw)) (by decide) (backOf (W := 0) (rm3_85 l Z a0 hw [] a_SUSPENDED ax84 h1 n0 (Nat.le_trans Z0 KK1.1) ) hZ1 (tw_43 hw) (tw_42 hw) (by decide) (by decide)) (g := (mkF m 3 #[.val (.ref a_COMPLETED), .val (.ref a_SUSPENDED), .val (.ref a_CONSUMER)] [(.ref ax84), (.ref a_SUSPENDED)])) rfl (by rw [hml]; rfl) (argsL := [(.ref a_SUSPENDED), (.ref ax84)]) (rest := []) (lenOf pd_1 rfl) rfl (by show 2 * 0 + _ ≤ _; exact Nat.le_of_eq rfl) (hb hby d2_3) (fun _ _ => ⟨rfl, e1, (by decide : 2 + 0 ≤ _), (by decide : 20 + 0 ≤ _)⟩)
  dsimp only [Pt.U, Pt.locs, Pt.cells, Pt.slots] at X2 l2 y2 z2 st2 hQ2
  subst l2 y2 z2
  obtain ⟨rfl, Nq2, e2⟩ := hQ2
  have N2 := Fr.app N0 Nq2
  obtain ⟨ax86, T3, h3, kz3, X3, e3, E3, hS3, hk3, hZ3, hown3, st3⟩ := ldcS (s := s) (vm0 := T1.vm) X2 hx hZ1 hown1 (tw_44 hw) (own_strs hw) e2 hS1 hk1 (g := (mkF m 8 #[.val (.ref a_COMPLETED), .val (.ref a_SUSPENDED), .val (.ref a_CONSUMER)] [(.ref a_CONSUMER)])) rfl (hb hby d2_8) (n := 8) (by decide) (by decide) (by decide) (by decide)
  have KK3 : Keep h0 h3 [] := KK1.ext E3
  -- pc 10: java/util/Objects.requireNonNull
  obtain ⟨_, _, ⟨T4, L4, k4, n4⟩, -, X4, ⟨Lc4, hQ4, l4, y4, z4⟩, st4⟩ := Jvm.LawKit.callS X3 hx (y := M_1) hown3 (mvT hZ3 (tw_40 hw)) (mvT hZ3 (tw_41 hw)) (mvT hZ3 (tw_42 hw)) (mvT hZ3 (tw_43 hw)) (by decide) (backOf (W := 0) (rm3_53 l Z a0 hw [] a_CONSUMER ax86 h3 n0 (Nat.le_trans Z0 KK3.1) ) hZ3 (tw_43 hw) (tw_42 hw) (by decide) (by decide)) (g := (mkF m 10 #[.val (.ref a_COMPLETED), .val (.ref a_SUSPENDED), .val (.ref a_CONSUMER)] [(.ref ax86), (.ref a_CONSUMER)])) rfl (by rw [hml]; rfl) (argsL := [(.ref a_CONSUMER), (.ref ax86)]) (rest := []) (lenOf pd_1 rfl) rfl (by show 2 * 0 + _ ≤ _; exact Nat.le_of_eq rfl) (hb hby d2_10) (fun _ _ => ⟨rfl, e3, (by decide : 4 + 0 ≤ _), (by decide : 32 + 0 ≤ _)⟩)
  dsimp only [Pt.U, Pt.locs, Pt.cells, Pt.slots] at X4 l4 y4 z4 st4 hQ4
  subst l4 y4 z4
  obtain ⟨rfl, Nq4, e4⟩ := hQ4
  have N4 := Fr.app N2 Nq4
  -- pc 15: java/lang/Enum.ordinal
  have u5 : F_0 Z h1 a_SUSPENDED (.int 2) := Fld.ext E1 f1
  have u6 : F_0 Z h3 a_SUSPENDED (.int 2) := Fld.ext E3 u5
  have u8 : E_0 Z h1 a_SUSPENDED := Exa.ext E1 f2
  have u9 : E_0 Z h3 a_SUSPENDED := Exa.ext E3 u8
  obtain ⟨cq7, kq7, q7a, q7b, q7c⟩ := isOf hZ3 e4 u9
  obtain ⟨_, _, ⟨T7, L7, k7, n7⟩, -, X7, ⟨Lc7, hQ7, l7, y7, z7⟩, st7⟩ := X4.virtualBackUp hx (x := M_3) (y := M_2) (owner := "java/lang/Enum") hown3 (mvT hZ3 (tw_45 hw)) (mvT hZ3 (tw_46 hw)) (mvT hZ3 (tw_47 hw)) (by decide) (mvT hZ3 (tw_49 hw)) (mvT hZ3 (tw_48 hw)) (backOf (W := 0) (rm4_87 l Z a0 hw [] a_SUSPENDED h3 n0 (Nat.le_trans Z0 KK3.1) u6) hZ3 (tw_51 hw) (tw_50 hw) (by decide) (by decide)) q7a q7c (g := (mkF m 15 #[.val (.ref a_COMPLETED), .val (.ref a_SUSPENDED), .val (.ref a_CONSUMER)] [(.ref a_SUSPENDED)])) rfl (by rw [hml]; rfl) (Steps.refl _) (argsL := []) (rest := []) (lenOf pd_2 rfl) rfl (by show 2 * 0 + _ ≤ _; exact Nat.le_of_eq rfl) (hb hby d2_15) (fun _ _ => ⟨rfl, e4, (by decide : 4 + 0 ≤ _), (by decide : 32 + 0 ≤ _)⟩)
  dsimp only [Pt.U, Pt.locs, Pt.cells, Pt.slots] at X7 l7 y7 z7 st7 hQ7
  subst l7 y7 z7
  obtain ⟨rfl, Nq7, e7⟩ := hQ7
  have N7 := Fr.app N4 Nq7
  have u10 : S_1 Z h1 (.ref a_STARTED) := Sta.ext E1 f3
  have u11 : S_1 Z h3 (.ref a_STARTED) := Sta.ext E3 u10
  obtain ⟨T12, X12, e12, st12⟩ := getS2 X7 hx hZ3 hown3 (host := "") (Or.inl (tw_57 hw)) Via.refl e7 u11 (g := (mkF m 96 #[.val (.ref a_COMPLETED), .val (.ref a_SUSPENDED), .val (.ref a_CONSUMER)] [(.ref a_COMPLETED)])) rfl (hb hby d2_96)
  obtain ⟨fs, hr, hrun, hended, hRE⟩ := X12.leaveW hS3 (by rw [e12]; exact hk3) (v := (some (.int 0))) (fun h => by rw [Bd.returns] at h; cases h)
  refine ⟨_, _, castTop (ef2_RRR m a_COMPLETED a_SUSPENDED a_CONSUMER) ?_, hrun, hended, _, _, rfl, ?_, hRE.1, hRE.2.1, hRE.2.2.1, hRE.2.2.2.mono (by decide) (by decide)⟩
  · show Steps p.tables e below (s₁.setTop (mkF m 0 #[.val (.ref a_COMPLETED), .val (.ref a_SUSPENDED), .val (.ref a_CONSUMER)] [])) _
    refine XS.aloadN X0.here hx rfl (hb hby d2_0) rfl rfl ?_
    show Steps p.tables e below (s₁.setTop (mkF m 1 #[.val (.ref a_COMPLETED), .val (.ref a_SUSPENDED), .val (.ref a_CONSUMER)] [(.ref a_SUSPENDED)])) _
    refine st1 _ ?_
    show Steps p.tables e below (T1.setTop (mkF m 3 #[.val (.ref a_COMPLETED), .val (.ref a_SUSPENDED), .val (.ref a_CONSUMER)] [(.ref ax84), (.ref a_SUSPENDED)])) _
    refine st2 _ ?_
    refine XS.pop X2.here hx rfl (hb hby d2_6) rfl rfl ?_
    refine XS.aloadN X2.here hx rfl (hb hby d2_7) rfl rfl ?_
    show Steps p.tables e below (T2.setTop (mkF m 8 #[.val (.ref a_COMPLETED), .val (.ref a_SUSPENDED), .val (.ref a_CONSUMER)] [(.ref a_CONSUMER)])) _
    refine st3 _ ?_
    show Steps p.tables e below (T3.setTop (mkF m 10 #[.val (.ref a_COMPLETED), .val (.ref a_SUSPENDED), .val (.ref a_CONSUMER)] [(.ref ax86), (.ref a_CONSUMER)])) _
    refine st4 _ ?_
    refine XS.pop X4.here hx rfl (hb hby d2_13) rfl rfl ?_
    refine XS.aloadN X4.here hx rfl (hb hby d2_14) rfl rfl ?_
    show Steps p.tables e below (T4.setTop (mkF m 15 #[.val (.ref a_COMPLETED), .val (.ref a_SUSPENDED), .val (.ref a_CONSUMER)] [(.ref a_SUSPENDED)])) _
    refine st7.trans ?_
    show Steps p.tables e below (T7.setTop (mkF m 18 #[.val (.ref a_COMPLETED), .val (.ref a_SUSPENDED), .val (.ref a_CONSUMER)] [(.int 2)])) _
    refine XS.tswIn X7.here hx rfl (pc0 := 18) (pc' := 95) (o := 77) rfl (hb hby d2_18) rfl (by decide) (by decide) (by decide) (by decide) ?_
    refine XS.aloadN X7.here hx rfl (hb hby d2_95) rfl rfl ?_
    show Steps p.tables e below (T7.setTop (mkF m 96 #[.val (.ref a_COMPLETED), .val (.ref a_SUSPENDED), .val (.ref a_CONSUMER)] [(.ref a_COMPLETED)])) _
    refine st12 _ ?_
    show Steps p.tables e below (T12.setTop (mkF m 99 #[.val (.ref a_COMPLETED), .val (.ref a_SUSPENDED), .val (.ref a_CONSUMER)] [(.ref a_STARTED), (.ref a_COMPLETED)])) _
    refine Jvm.RoadKit.acmp (g := (mkF m 99 #[.val (.ref a_COMPLETED), .val (.ref a_SUSPENDED), .val (.ref a_CONSUMER)] [(.ref a_STARTED), (.ref a_COMPLETED)])) X12 hx rfl rfl rfl (pc0 := 99) (pc' := 106) (same := false) rfl (hb hby d2_99) rfl (decide_eq_false fun q => f4 (Value.ref.inj q)) (by decide) (by decide) ?_
    refine XS.iconst X12.here hx rfl (hb hby d2_106) ?_
    refine XS.goto X12.here hx rfl (pc0 := 107) (pc' := 122) rfl (hb hby d2_107) (by decide) (by decide) ?_
    show Steps p.tables e below (T12.setTop (mkF m 122 #[.val (.ref a_COMPLETED), .val (.ref a_SUSPENDED), .val (.ref a_CONSUMER)] [(.int 0)])) _
    exact retN X12 hx (t := .boolean) Bd.returns (by simp) (hb hby d2_122) hr
  · show Q2_89 Z  h0 n0 _ T12.heap _
    rw [e12]
    exact ⟨rfl, N7, KK3⟩
set_option maxRecDepth 65536 in
set_option maxHeartbeats 40000000 in
theorem rm0_90 (l : Launch) (Z : State) (a0 : Array Value) (hw : ∀ d ∈ tables_1, d.before a0 Z = true) (ws : List Jvm.Cond) (p0 : Int32) (p1 : Int32) (p2 : Int32) (a_REQUESTED : Addr) (a_STARTED : Addr) (a_SUSPENDED : Addr) (a_COMPLETED : Addr) (a_TERMINATED : Addr) (a_CONSUMER : Addr) (h0 : Heap) (n0 : Nat) (Z0 : n0 ≤ h0.size) (f1 : S_0 Z h0 (.ref a_REQUESTED)) (f2 : E_0 Z h0 a_REQUESTED) (f3 : S_1 Z h0 (.ref a_STARTED)) (f4 : E_0 Z h0 a_STARTED) (f5 : S_2 Z h0 (.ref a_SUSPENDED)) (f6 : E_0 Z h0 a_SUSPENDED) (f7 : S_3 Z h0 (.ref a_COMPLETED)) (f8 : E_0 Z h0 a_COMPLETED) (f9 : S_4 Z h0 (.ref a_TERMINATED)) (f10 : E_0 Z h0 a_TERMINATED) (f11 : ((p0 &&& (2147483647 : Int32)) % (5 : Int32)) = (3 : Int32)) (f12 : ((p1 &&& (2147483647 : Int32)) % (5 : Int32)) = (2 : Int32)) (f13 : (p2 &&& (1 : Int32)) = (0 : Int32)) (f14 : S_5 Z h0 (.ref a_CONSUMER)) (f15 : F_0 Z h0 a_SUSPENDED (.int 2)) (f16 : a_COMPLETED ≠ a_STARTED) :
    MetFree l x (head1 (Jvm.Cond.code x code maxLocals ret :: ws) room_1) (fun a U => a = #[(.int p0), (.int p1), (.int p2)] ∧ Z.Warmed39 U.vm ∧ U.heap = h0) (fun _ _ _ _ _ => True) (fun _ U o U' => ∃ v L, o = .returned v ∧ QT n0 v U'.heap L ∧ ReturnedEndW U o U' L room_1.cells room_1.slots) := by
  refine MetFree.of_bodySF (plainFor_of_name pn_com_example_offer_offer_model_TransferStateIsFinalPinLaw) hisR ?_
  intro p e s m args below meth c s₁ Bd hml0 hP hK
  obtain ⟨rfl, hZ, hh⟩ := hP
  have hx := Bd.exec
  have hby := Bd.bytes
  have hml : c.maxLocals = 10 := hml0
  have hown : s.vm.findClass "com/example/offer/offer/model/TransferStateIsFinalPinLaw" = some m.cls := findClass_of_methodNamed Bd.named
  have hnm := (name_of_methodNamed Bd.named Bd.method).1
  have X0 : Stand p l e room_1 s m #[(.int p0), (.int p1), (.int p2)] below meth c s₁ [] 0 0 := Stand.of_body Bd
  have e0 : s₁.heap = h0 := by rw [← hh, Bd.state]; rfl
  have N0 := Fr.nil n0
  obtain ⟨T1, h1, L1, b82, kc83, X1, e1, N1, K1, le_b82, o1_0, o1_1, st1⟩ := sg0_25 p0 p1 p2 a_REQUESTED a_STARTED a_SUSPENDED a_COMPLETED a_TERMINATED X0 hx hZ hw hby hml hown e0 N0 Z0 f1 f2 f3 f4 f5 f6 f7 f8 f9 f10
  have sz_b82 : h0.size ≤ b82 := Nat.le_trans (Nat.le_refl _) le_b82
  have g_b82 : n0 ≤ b82 := Nat.le_trans Z0 sz_b82
  have KK1 : Keep h0 h1 [] := (Keep.refl h0 []).trans K1 (fun x hx => nomatch hx)
  have u2 : S_5 Z h1 (.ref a_CONSUMER) := own_sta_keep f14 K1 (fun _ q => nomatch q)
  obtain ⟨T3, X3, e3, st3⟩ := getS2 X1 hx hZ hown (host := "") (Or.inl (tw_15 hw)) Via.refl e1 u2 (g := (mkF m 63 #[.val (.int p0), .val (.int p1), .val (.int p2), .val (.ref b82), .val (.int 3), .val (.int 2), .unset, .unset, .unset, .unset] [])) rfl (hb hby at_63)
  have va4 := o1_0
  obtain ⟨cl4, Ar4, -, S4, -, H4, -⟩ := va4
  have hin4 : ¬ ((3 : Int32) < 0 ∨ cl4.slots.size ≤ ((3 : Int32)).toNatClampNeg) := inb_of S4 ⟨by decide, by decide⟩
  have hat4 : cl4.slots[((3 : Int32)).toNatClampNeg]? = some (.ref a_COMPLETED) := H4 _ (Nat.lt_of_not_le fun y => hin4 (Or.inr y))
  -- pc 76: com/example/offer/offer/model/TransferState.isFinal
  have u5 : S_3 Z h1 (.ref a_COMPLETED) := own_sta_keep f7 K1 (fun _ q => nomatch q)
  have u7 : E_0 Z h1 a_COMPLETED := Exa.keep f8 K1
  obtain ⟨cq6, kq6, q6a, q6b, q6c⟩ := isOf hZ e3 u7
  obtain ⟨_, _, ⟨T6, L6, k6, n6⟩, -, X6, ⟨Lc6, hQ6, l6, y6, z6⟩, st6⟩ := X3.virtualBack hx (y := M_0) (z := M_0) hown (mvT hZ (tw_18 hw)) (mvT hZ (tw_19 hw)) (notFace_of_selects (args := #[]) (mvT hZ (tw_21 hw))) (mvT hZ (tw_21 hw)) (mvT hZ (tw_20 hw)) (by decide) (backOf (W := 0) (rm1_49 l Z a0 hw [] a_COMPLETED h1 n0 (Nat.le_trans Z0 KK1.1) u5) hZ (tw_22 hw) (tw_3 hw) (by decide) (by decide)) q6a q6c (g := (mkF m 76 #[.val (.int p0), .val (.int p1), .val (.int p2), .val (.ref b82), .val (.int 3), .val (.int 2), .val (.ref a_CONSUMER), .val (.ref a_COMPLETED), .unset, .unset] [(.ref a_COMPLETED)])) rfl (by rw [hml]; rfl) (Steps.refl _) (argsL := []) (rest := []) (lenOf pd_0 rfl) rfl (by show 2 * 0 + _ ≤ _; exact Nat.le_of_eq rfl) (hb hby at_76) (fun _ _ => ⟨rfl, e3, (by decide : 1 + 0 ≤ _), (by decide : 5 + 0 ≤ _)⟩)
  dsimp only [Pt.U, Pt.locs, Pt.cells, Pt.slots] at X6 l6 y6 z6 st6 hQ6
  subst l6 y6 z6
  obtain ⟨rfl, Nq6, e6⟩ := hQ6
  have N6 := Fr.app N1 Nq6
  have va8 := o1_0
  obtain ⟨cl8, Ar8, -, S8, -, H8, -⟩ := va8
  have hin8 : ¬ ((2 : Int32) < 0 ∨ cl8.slots.size ≤ ((2 : Int32)).toNatClampNeg) := inb_of S8 ⟨by decide, by decide⟩
  have hat8 : cl8.slots[((2 : Int32)).toNatClampNeg]? = some (.ref a_SUSPENDED) := H8 _ (Nat.lt_of_not_le fun y => hin8 (Or.inr y))
  -- pc 116: com/example/offer/offer/model/TransferState.canMoveTo
  have u9 : F_0 Z h1 a_SUSPENDED (.int 2) := Fld.keep f15 K1 List.not_mem_nil
  have u10 : E_0 Z h1 a_SUSPENDED := Exa.keep f6 K1
  have u11 : S_1 Z h1 (.ref a_STARTED) := own_sta_keep f3 K1 (fun _ q => nomatch q)
  obtain ⟨cq12, kq12, q12a, q12b, q12c⟩ := isOf hZ e6 u7
  obtain ⟨_, _, ⟨T12, L12, k12, n12⟩, -, X12, hS12, hg12, ⟨Lc12, hQ12, l12, y12, z12⟩, st12⟩ := X6.virtualBackS hx (y := M_4) (z := M_4) hown (mvT hZ (tw_27 hw)) (mvT hZ (tw_28 hw)) (notFace_of_selects (args := #[]) (mvT hZ (tw_30 hw))) (mvT hZ (tw_30 hw)) (mvT hZ (tw_29 hw)) (by decide) (backOfS (W := 0) (rm2_88 l Z a0 hw [] a_COMPLETED a_SUSPENDED a_CONSUMER a_STARTED h1 n0 (Nat.le_trans Z0 KK1.1) u9 u10 u11 f16) hZ (tw_31 hw) (tw_3 hw) (by decide) (by decide)) q12a q12c (g := (mkF m 116 #[.val (.int p0), .val (.int p1), .val (.int p2), .val (.ref b82), .val (.int 3), .val (.int 2), .val (.ref a_CONSUMER), .val (.ref a_COMPLETED), .val (.int 1), .val (.int 1)] [(.ref a_CONSUMER), (.ref a_SUSPENDED), (.ref a_COMPLETED)])) rfl (by rw [hml]; rfl) (Steps.refl _) (argsL := [(.ref a_SUSPENDED), (.ref a_CONSUMER)]) (rest := []) (lenOf pd_3 rfl) rfl (by show 2 * 0 + _ ≤ _; exact Nat.le_of_eq rfl) (hb hby at_116) (fun _ _ => ⟨rfl, e6, (by decide : 1 + 4 ≤ _), (by decide : 5 + 32 ≤ _)⟩)
  dsimp only [Pt.U, Pt.locs, Pt.cells, Pt.slots] at X12 l12 y12 z12 st12 hQ12 hS12 hg12
  subst l12 y12 z12
  have hZ12 : Z.Warmed39 (s.setVm T12.vm).vm := State.Warmed39.trans hZ hS12.1
  have hown12 : (s.setVm T12.vm).vm.findClass "com/example/offer/offer/model/TransferStateIsFinalPinLaw" = some m.cls := by rw [show (s.setVm T12.vm).vm = T12.vm from rfl, hS12.1.alike.findClass]; exact hown
  obtain ⟨rfl, Nq12, K12⟩ := hQ12
  have N12 := Fr.app N6 Nq12
  have KK12 : Keep h0 T12.heap [] := KK1.trans K12 (fun x hx => nomatch hx)
  obtain ⟨fs, hr, hrun, hended, hRE⟩ := X12.leaveW hS12 (by exact (Nat.le_refl _)) (v := (some (.int 1))) (fun h => by rw [Bd.returns] at h; cases h)
  refine ⟨_, _, castTop (ef0_III m p0 p1 p2) ?_, hrun, hended, _, _, rfl, ?_, hRE.1, hRE.2.1, hRE.2.2.1, hRE.2.2.2.mono (by decide) (by decide)⟩
  · show Steps p.tables e below (s₁.setTop (mkF m 0 #[.val (.int p0), .val (.int p1), .val (.int p2), .unset, .unset, .unset, .unset, .unset, .unset, .unset] [])) _
    refine st1 _ ?_
    refine XS.iloadN X1.here hx rfl (hb hby at_35) rfl ?_
    show Steps p.tables e below (T1.setTop (mkF m 36 #[.val (.int p0), .val (.int p1), .val (.int p2), .val (.ref b82), .unset, .unset, .unset, .unset, .unset, .unset] [(.int p0)])) _
    refine X1.ldcInt hx hown (mvT hZ (tw_14 hw)) (g := (mkF m 36 #[.val (.int p0), .val (.int p1), .val (.int p2), .val (.ref b82), .unset, .unset, .unset, .unset, .unset, .unset] [(.int p0)])) rfl (hb hby at_36) _ ?_
    show Steps p.tables e below (T1.setTop (mkF m 38 #[.val (.int p0), .val (.int p1), .val (.int p2), .val (.ref b82), .unset, .unset, .unset, .unset, .unset, .unset] [(.int 2147483647), (.int p0)])) _
    refine XS.iand X1.here hx rfl (hb hby at_38) rfl ?_
    refine XS.iconst X1.here hx rfl (hb hby at_39) ?_
    show Steps p.tables e below (T1.setTop (mkF m 40 #[.val (.int p0), .val (.int p1), .val (.int p2), .val (.ref b82), .unset, .unset, .unset, .unset, .unset, .unset] [(.int 5), (.int (p0 &&& (2147483647 : Int32)))])) _
    refine iremM X1 hx rfl (hb hby at_40) rfl (by decide) ?_
    show Steps p.tables e below (T1.setTop (mkF m 41 #[.val (.int p0), .val (.int p1), .val (.int p2), .val (.ref b82), .unset, .unset, .unset, .unset, .unset, .unset] [(.int ((p0 &&& (2147483647 : Int32)) % (5 : Int32)))])) _
    rw [f11]
    refine XS.istore X1.here hx rfl (hb hby at_41) rfl (l' := #[.val (.int p0), .val (.int p1), .val (.int p2), .val (.ref b82), .val (.int 3), .unset, .unset, .unset, .unset, .unset]) rfl ?_
    refine XS.iloadN X1.here hx rfl (hb hby at_43) rfl ?_
    show Steps p.tables e below (T1.setTop (mkF m 44 #[.val (.int p0), .val (.int p1), .val (.int p2), .val (.ref b82), .val (.int 3), .unset, .unset, .unset, .unset, .unset] [(.int p1)])) _
    refine X1.ldcInt hx hown (mvT hZ (tw_14 hw)) (g := (mkF m 44 #[.val (.int p0), .val (.int p1), .val (.int p2), .val (.ref b82), .val (.int 3), .unset, .unset, .unset, .unset, .unset] [(.int p1)])) rfl (hb hby at_44) _ ?_
    show Steps p.tables e below (T1.setTop (mkF m 46 #[.val (.int p0), .val (.int p1), .val (.int p2), .val (.ref b82), .val (.int 3), .unset, .unset, .unset, .unset, .unset] [(.int 2147483647), (.int p1)])) _
    refine XS.iand X1.here hx rfl (hb hby at_46) rfl ?_
    refine XS.iconst X1.here hx rfl (hb hby at_47) ?_
    show Steps p.tables e below (T1.setTop (mkF m 48 #[.val (.int p0), .val (.int p1), .val (.int p2), .val (.ref b82), .val (.int 3), .unset, .unset, .unset, .unset, .unset] [(.int 5), (.int (p1 &&& (2147483647 : Int32)))])) _
    refine iremM X1 hx rfl (hb hby at_48) rfl (by decide) ?_
    show Steps p.tables e below (T1.setTop (mkF m 49 #[.val (.int p0), .val (.int p1), .val (.int p2), .val (.ref b82), .val (.int 3), .unset, .unset, .unset, .unset, .unset] [(.int ((p1 &&& (2147483647 : Int32)) % (5 : Int32)))])) _
    rw [f12]
    refine XS.istore X1.here hx rfl (hb hby at_49) rfl (l' := #[.val (.int p0), .val (.int p1), .val (.int p2), .val (.ref b82), .val (.int 3), .val (.int 2), .unset, .unset, .unset, .unset]) rfl ?_
    refine XS.iloadN X1.here hx rfl (hb hby at_51) rfl ?_
    refine XS.iconst X1.here hx rfl (hb hby at_52) ?_
    show Steps p.tables e below (T1.setTop (mkF m 53 #[.val (.int p0), .val (.int p1), .val (.int p2), .val (.ref b82), .val (.int 3), .val (.int 2), .unset, .unset, .unset, .unset] [(.int 1), (.int p2)])) _
    refine XS.iand X1.here hx rfl (hb hby at_53) rfl ?_
    refine XS.ifYes X1.here hx rfl (pc0 := 54) (pc' := 63) rfl (hb hby at_54) rfl ((if0 _ _).trans (teq (f13 : (p2 &&& (1 : Int32)) = (0 : Int32))).1) (by decide) (by decide) ?_
    show Steps p.tables e below (T1.setTop (mkF m 63 #[.val (.int p0), .val (.int p1), .val (.int p2), .val (.ref b82), .val (.int 3), .val (.int 2), .unset, .unset, .unset, .unset] [])) _
    refine st3 _ ?_
    refine XS.astore X3.here hx rfl (hb hby at_66) rfl rfl (l' := #[.val (.int p0), .val (.int p1), .val (.int p2), .val (.ref b82), .val (.int 3), .val (.int 2), .val (.ref a_CONSUMER), .unset, .unset, .unset]) rfl ?_
    refine XS.aloadN X3.here hx rfl (hb hby at_68) rfl rfl ?_
    refine XS.iload X3.here hx rfl (hb hby at_69) rfl ?_
    show Steps p.tables e below (T3.setTop (mkF m 71 #[.val (.int p0), .val (.int p1), .val (.int p2), .val (.ref b82), .val (.int 3), .val (.int 2), .val (.ref a_CONSUMER), .unset, .unset, .unset] [(.int 3), (.ref b82)])) _
    refine X3.aaload hx (j := (3 : Int32)) (v := (.ref a_COMPLETED)) (by rw [e3]; exact Ar4.1) (State.isArrayOf_alike hZ.alike Ar4.2.1) rfl Ar4.2.2 hin4 hat4 (g := (mkF m 71 #[.val (.int p0), .val (.int p1), .val (.int p2), .val (.ref b82), .val (.int 3), .val (.int 2), .val (.ref a_CONSUMER), .unset, .unset, .unset] [(.int 3), (.ref b82)])) rfl rfl (hb hby at_71) _ ?_
    refine XS.astore X3.here hx rfl (hb hby at_72) rfl rfl (l' := #[.val (.int p0), .val (.int p1), .val (.int p2), .val (.ref b82), .val (.int 3), .val (.int 2), .val (.ref a_CONSUMER), .val (.ref a_COMPLETED), .unset, .unset]) rfl ?_
    refine XS.aload X3.here hx rfl (hb hby at_74) rfl rfl ?_
    show Steps p.tables e below (T3.setTop (mkF m 76 #[.val (.int p0), .val (.int p1), .val (.int p2), .val (.ref b82), .val (.int 3), .val (.int 2), .val (.ref a_CONSUMER), .val (.ref a_COMPLETED), .unset, .unset] [(.ref a_COMPLETED)])) _
    refine st6.trans ?_
    refine XS.istore X6.here hx rfl (hb hby at_79) rfl (l' := #[.val (.int p0), .val (.int p1), .val (.int p2), .val (.ref b82), .val (.int 3), .val (.int 2), .val (.ref a_CONSUMER), .val (.ref a_COMPLETED), .val (.int 1), .unset]) rfl ?_
    refine XS.iload X6.here hx rfl (hb hby at_81) rfl ?_
    refine XS.iconst X6.here hx rfl (hb hby at_83) ?_
    refine XS.icmpNo X6.here hx rfl (hb hby at_84) rfl (by decide) ?_
    show Steps p.tables e below (T6.setTop (mkF m 87 #[.val (.int p0), .val (.int p1), .val (.int p2), .val (.ref b82), .val (.int 3), .val (.int 2), .val (.ref a_CONSUMER), .val (.ref a_COMPLETED), .val (.int 1), .unset] [])) _
    refine XS.iconst X6.here hx rfl (hb hby at_87) ?_
    refine XS.goto X6.here hx rfl (pc0 := 88) (pc' := 92) rfl (hb hby at_88) (by decide) (by decide) ?_
    refine XS.istore X6.here hx rfl (hb hby at_92) rfl (l' := #[.val (.int p0), .val (.int p1), .val (.int p2), .val (.ref b82), .val (.int 3), .val (.int 2), .val (.ref a_CONSUMER), .val (.ref a_COMPLETED), .val (.int 1), .val (.int 1)]) rfl ?_
    refine XS.iload X6.here hx rfl (hb hby at_94) rfl ?_
    refine XS.iload X6.here hx rfl (hb hby at_96) rfl ?_
    show Steps p.tables e below (T6.setTop (mkF m 98 #[.val (.int p0), .val (.int p1), .val (.int p2), .val (.ref b82), .val (.int 3), .val (.int 2), .val (.ref a_CONSUMER), .val (.ref a_COMPLETED), .val (.int 1), .val (.int 1)] [(.int 1), (.int 1)])) _
    refine XS.icmpYes X6.here hx rfl (pc0 := 98) (pc' := 103) rfl (hb hby at_98) rfl (by decide) (by decide) (by decide) ?_
    refine XS.iload X6.here hx rfl (hb hby at_103) rfl ?_
    refine XS.ifNo X6.here hx rfl (hb hby at_105) rfl (by decide) ?_
    refine XS.aload X6.here hx rfl (hb hby at_108) rfl rfl ?_
    refine XS.aloadN X6.here hx rfl (hb hby at_110) rfl rfl ?_
    show Steps p.tables e below (T6.setTop (mkF m 111 #[.val (.int p0), .val (.int p1), .val (.int p2), .val (.ref b82), .val (.int 3), .val (.int 2), .val (.ref a_CONSUMER), .val (.ref a_COMPLETED), .val (.int 1), .val (.int 1)] [(.ref b82), (.ref a_COMPLETED)])) _
    refine XS.iload X6.here hx rfl (hb hby at_111) rfl ?_
    show Steps p.tables e below (T6.setTop (mkF m 113 #[.val (.int p0), .val (.int p1), .val (.int p2), .val (.ref b82), .val (.int 3), .val (.int 2), .val (.ref a_CONSUMER), .val (.ref a_COMPLETED), .val (.int 1), .val (.int 1)] [(.int 2), (.ref b82), (.ref a_COMPLETED)])) _
    refine X6.aaload hx (j := (2 : Int32)) (v := (.ref a_SUSPENDED)) (by rw [e6]; exact Ar8.1) (State.isArrayOf_alike hZ.alike Ar8.2.1) rfl Ar8.2.2 hin8 hat8 (g := (mkF m 113 #[.val (.int p0), .val (.int p1), .val (.int p2), .val (.ref b82), .val (.int 3), .val (.int 2), .val (.ref a_CONSUMER), .val (.ref a_COMPLETED), .val (.int 1), .val (.int 1)] [(.int 2), (.ref b82), (.ref a_COMPLETED)])) rfl rfl (hb hby at_113) _ ?_
    refine XS.aload X6.here hx rfl (hb hby at_114) rfl rfl ?_
    show Steps p.tables e below (T6.setTop (mkF m 116 #[.val (.int p0), .val (.int p1), .val (.int p2), .val (.ref b82), .val (.int 3), .val (.int 2), .val (.ref a_CONSUMER), .val (.ref a_COMPLETED), .val (.int 1), .val (.int 1)] [(.ref a_CONSUMER), (.ref a_SUSPENDED), (.ref a_COMPLETED)])) _
    refine st12.trans ?_
    refine XS.ifYes X12.here hx rfl (pc0 := 119) (pc' := 124) rfl (hb hby at_119) rfl (by decide) (by decide) (by decide) ?_
    refine XS.iconst X12.here hx rfl (hb hby at_124) ?_
    show Steps p.tables e below (T12.setTop (mkF m 125 #[.val (.int p0), .val (.int p1), .val (.int p2), .val (.ref b82), .val (.int 3), .val (.int 2), .val (.ref a_CONSUMER), .val (.ref a_COMPLETED), .val (.int 1), .val (.int 1)] [(.int 1)])) _
    exact retN X12 hx (t := .boolean) Bd.returns (by simp) (hb hby at_125) hr
  · show QT n0 _ T12.heap _
    exact ⟨rfl, N12⟩
def Q2_96 (Z : State)  (h0 : Heap) (n0 : Nat) (v : Option Value) (h : Heap) (L : List Loc) : Prop := v = (some (.int 0)) ∧ Fr n0 L ∧ Keep h0 h []
set_option maxRecDepth 65536 in
set_option maxHeartbeats 40000000 in
theorem rm2_95 (l : Launch) (Z : State) (a0 : Array Value) (hw : ∀ d ∈ tables_1, d.before a0 Z = true) (ws : List Jvm.Cond) (a_COMPLETED : Addr) (a_SUSPENDED : Addr) (a_PROVIDER : Addr) (a_STARTED : Addr) (h0 : Heap) (n0 : Nat) (Z0 : n0 ≤ h0.size) (f1 : F_0 Z h0 a_SUSPENDED (.int 2)) (f2 : E_0 Z h0 a_SUSPENDED) (f3 : S_1 Z h0 (.ref a_STARTED)) (f4 : a_COMPLETED ≠ a_STARTED) :
    MetFree l M_4 (head1 (Jvm.Cond.code M_4 prog_6_method_5_code 3 (some .boolean) :: ws) R_1_4_32_13) (fun a U => a = #[(.ref a_COMPLETED), (.ref a_SUSPENDED), (.ref a_PROVIDER)] ∧ Z.Warmed39 U.vm ∧ U.heap = h0) (fun _ _ _ _ _ => True) (fun _ U o U' => ∃ v L, o = .returned v ∧ Q2_96 Z  h0 n0 v U'.heap L ∧ ReturnedEndW U o U' L R_1_4_32_13.cells R_1_4_32_13.slots) := by
  refine MetFree.of_bodySF (plainFor_of_name pn_com_example_offer_offer_model_TransferState) hisR ?_
  intro p e s m args below meth c s₁ Bd hml0 hP hK
  obtain ⟨rfl, hZ, hh⟩ := hP
  have hx := Bd.exec
  have hby := Bd.bytes
  have hml : c.maxLocals = 3 := hml0
  have hown : s.vm.findClass "com/example/offer/offer/model/TransferState" = some m.cls := findClass_of_methodNamed Bd.named
  have hnm := (name_of_methodNamed Bd.named Bd.method).1
  have X0 : Stand p l e R_1_4_32_13 s m #[(.ref a_COMPLETED), (.ref a_SUSPENDED), (.ref a_PROVIDER)] below meth c s₁ [] 0 0 := Stand.of_body Bd
  have e0 : s₁.heap = h0 := by rw [← hh, Bd.state]; rfl
  have N0 := Fr.nil n0
  obtain ⟨ax93, T1, h1, kz1, X1, e1, E1, hS1, hk1, hZ1, hown1, st1⟩ := ldcS (s := s) (vm0 := s.vm) X0 hx hZ hown (tw_32 hw) (own_strs hw) e0 ((State.WarmedH.refl s).since 0) (Nat.zero_le _) (g := (mkF m 1 #[.val (.ref a_COMPLETED), .val (.ref a_SUSPENDED), .val (.ref a_PROVIDER)] [(.ref a_SUSPENDED)])) rfl (hb hby d2_1) (n := 16) (by decide) (by decide) (by decide) (by decide)
  have KK1 : Keep h0 h1 [] := (Keep.refl h0 []).ext E1
  -- pc 3: java/util/Objects.requireNonNull
  obtain ⟨_, _, ⟨T2, L2, k2, n2⟩, -, X2, ⟨Lc2, hQ2, l2, y2, z2⟩, st2⟩ := Jvm.LawKit.callS X1 hx (y := M_1) hown1 (mvT hZ1 (tw_40 hw)) (mvT hZ1 (tw_41 hw)) (mvT hZ1 (tw_42 hw)) (mvT hZ1 (tw_43 hw)) (by decide) (backOf (W := 0) (rm3_85 l Z a0 hw [] a_SUSPENDED ax93 h1 n0 (Nat.le_trans Z0 KK1.1) ) hZ1 (tw_43 hw) (tw_42 hw) (by decide) (by decide)) (g := (mkF m 3 #[.val (.ref a_COMPLETED), .val (.ref a_SUSPENDED), .val (.ref a_PROVIDER)] [(.ref ax93), (.ref a_SUSPENDED)])) rfl (by rw [hml]; rfl) (argsL := [(.ref a_SUSPENDED), (.ref ax93)]) (rest := []) (lenOf pd_1 rfl) rfl (by show 2 * 0 + _ ≤ _; exact Nat.le_of_eq rfl) (hb hby d2_3) (fun _ _ => ⟨rfl, e1, (by decide : 2 + 0 ≤ _), (by decide : 20 + 0 ≤ _)⟩)
  dsimp only [Pt.U, Pt.locs, Pt.cells, Pt.slots] at X2 l2 y2 z2 st2 hQ2
  subst l2 y2 z2
  obtain ⟨rfl, Nq2, e2⟩ := hQ2
  have N2 := Fr.app N0 Nq2
  obtain ⟨ax94, T3, h3, kz3, X3, e3, E3, hS3, hk3, hZ3, hown3, st3⟩ := ldcS (s := s) (vm0 := T1.vm) X2 hx hZ1 hown1 (tw_44 hw) (own_strs hw) e2 hS1 hk1 (g := (mkF m 8 #[.val (.ref a_COMPLETED), .val (.ref a_SUSPENDED), .val (.ref a_PROVIDER)] [(.ref a_PROVIDER)])) rfl (hb hby d2_8) (n := 8) (by decide) (by decide) (by decide) (by decide)
  have KK3 : Keep h0 h3 [] := KK1.ext E3
  -- pc 10: java/util/Objects.requireNonNull
  obtain ⟨_, _, ⟨T4, L4, k4, n4⟩, -, X4, ⟨Lc4, hQ4, l4, y4, z4⟩, st4⟩ := Jvm.LawKit.callS X3 hx (y := M_1) hown3 (mvT hZ3 (tw_40 hw)) (mvT hZ3 (tw_41 hw)) (mvT hZ3 (tw_42 hw)) (mvT hZ3 (tw_43 hw)) (by decide) (backOf (W := 0) (rm3_62 l Z a0 hw [] a_PROVIDER ax94 h3 n0 (Nat.le_trans Z0 KK3.1) ) hZ3 (tw_43 hw) (tw_42 hw) (by decide) (by decide)) (g := (mkF m 10 #[.val (.ref a_COMPLETED), .val (.ref a_SUSPENDED), .val (.ref a_PROVIDER)] [(.ref ax94), (.ref a_PROVIDER)])) rfl (by rw [hml]; rfl) (argsL := [(.ref a_PROVIDER), (.ref ax94)]) (rest := []) (lenOf pd_1 rfl) rfl (by show 2 * 0 + _ ≤ _; exact Nat.le_of_eq rfl) (hb hby d2_10) (fun _ _ => ⟨rfl, e3, (by decide : 4 + 0 ≤ _), (by decide : 32 + 0 ≤ _)⟩)
  dsimp only [Pt.U, Pt.locs, Pt.cells, Pt.slots] at X4 l4 y4 z4 st4 hQ4
  subst l4 y4 z4
  obtain ⟨rfl, Nq4, e4⟩ := hQ4
  have N4 := Fr.app N2 Nq4
  -- pc 15: java/lang/Enum.ordinal
  have u5 : F_0 Z h1 a_SUSPENDED (.int 2) := Fld.ext E1 f1
  have u6 : F_0 Z h3 a_SUSPENDED (.int 2) := Fld.ext E3 u5
  have u8 : E_0 Z h1 a_SUSPENDED := Exa.ext E1 f2
  have u9 : E_0 Z h3 a_SUSPENDED := Exa.ext E3 u8
  obtain ⟨cq7, kq7, q7a, q7b, q7c⟩ := isOf hZ3 e4 u9
  obtain ⟨_, _, ⟨T7, L7, k7, n7⟩, -, X7, ⟨Lc7, hQ7, l7, y7, z7⟩, st7⟩ := X4.virtualBackUp hx (x := M_3) (y := M_2) (owner := "java/lang/Enum") hown3 (mvT hZ3 (tw_45 hw)) (mvT hZ3 (tw_46 hw)) (mvT hZ3 (tw_47 hw)) (by decide) (mvT hZ3 (tw_49 hw)) (mvT hZ3 (tw_48 hw)) (backOf (W := 0) (rm4_87 l Z a0 hw [] a_SUSPENDED h3 n0 (Nat.le_trans Z0 KK3.1) u6) hZ3 (tw_51 hw) (tw_50 hw) (by decide) (by decide)) q7a q7c (g := (mkF m 15 #[.val (.ref a_COMPLETED), .val (.ref a_SUSPENDED), .val (.ref a_PROVIDER)] [(.ref a_SUSPENDED)])) rfl (by rw [hml]; rfl) (Steps.refl _) (argsL := []) (rest := []) (lenOf pd_2 rfl) rfl (by show 2 * 0 + _ ≤ _; exact Nat.le_of_eq rfl) (hb hby d2_15) (fun _ _ => ⟨rfl, e4, (by decide : 4 + 0 ≤ _), (by decide : 32 + 0 ≤ _)⟩)
  dsimp only [Pt.U, Pt.locs, Pt.cells, Pt.slots] at X7 l7 y7 z7 st7 hQ7
  subst l7 y7 z7
  obtain ⟨rfl, Nq7, e7⟩ := hQ7
  have N7 := Fr.app N4 Nq7
  have u10 : S_1 Z h1 (.ref a_STARTED) := Sta.ext E1 f3
  have u11 : S_1 Z h3 (.ref a_STARTED) := Sta.ext E3 u10
  obtain ⟨T12, X12, e12, st12⟩ := getS2 X7 hx hZ3 hown3 (host := "") (Or.inl (tw_57 hw)) Via.refl e7 u11 (g := (mkF m 96 #[.val (.ref a_COMPLETED), .val (.ref a_SUSPENDED), .val (.ref a_PROVIDER)] [(.ref a_COMPLETED)])) rfl (hb hby d2_96)
  obtain ⟨fs, hr, hrun, hended, hRE⟩ := X12.leaveW hS3 (by rw [e12]; exact hk3) (v := (some (.int 0))) (fun h => by rw [Bd.returns] at h; cases h)
  refine ⟨_, _, castTop (ef2_RRR m a_COMPLETED a_SUSPENDED a_PROVIDER) ?_, hrun, hended, _, _, rfl, ?_, hRE.1, hRE.2.1, hRE.2.2.1, hRE.2.2.2.mono (by decide) (by decide)⟩
  · show Steps p.tables e below (s₁.setTop (mkF m 0 #[.val (.ref a_COMPLETED), .val (.ref a_SUSPENDED), .val (.ref a_PROVIDER)] [])) _
    refine XS.aloadN X0.here hx rfl (hb hby d2_0) rfl rfl ?_
    show Steps p.tables e below (s₁.setTop (mkF m 1 #[.val (.ref a_COMPLETED), .val (.ref a_SUSPENDED), .val (.ref a_PROVIDER)] [(.ref a_SUSPENDED)])) _
    refine st1 _ ?_
    show Steps p.tables e below (T1.setTop (mkF m 3 #[.val (.ref a_COMPLETED), .val (.ref a_SUSPENDED), .val (.ref a_PROVIDER)] [(.ref ax93), (.ref a_SUSPENDED)])) _
    refine st2 _ ?_
    refine XS.pop X2.here hx rfl (hb hby d2_6) rfl rfl ?_
    refine XS.aloadN X2.here hx rfl (hb hby d2_7) rfl rfl ?_
    show Steps p.tables e below (T2.setTop (mkF m 8 #[.val (.ref a_COMPLETED), .val (.ref a_SUSPENDED), .val (.ref a_PROVIDER)] [(.ref a_PROVIDER)])) _
    refine st3 _ ?_
    show Steps p.tables e below (T3.setTop (mkF m 10 #[.val (.ref a_COMPLETED), .val (.ref a_SUSPENDED), .val (.ref a_PROVIDER)] [(.ref ax94), (.ref a_PROVIDER)])) _
    refine st4 _ ?_
    refine XS.pop X4.here hx rfl (hb hby d2_13) rfl rfl ?_
    refine XS.aloadN X4.here hx rfl (hb hby d2_14) rfl rfl ?_
    show Steps p.tables e below (T4.setTop (mkF m 15 #[.val (.ref a_COMPLETED), .val (.ref a_SUSPENDED), .val (.ref a_PROVIDER)] [(.ref a_SUSPENDED)])) _
    refine st7.trans ?_
    show Steps p.tables e below (T7.setTop (mkF m 18 #[.val (.ref a_COMPLETED), .val (.ref a_SUSPENDED), .val (.ref a_PROVIDER)] [(.int 2)])) _
    refine XS.tswIn X7.here hx rfl (pc0 := 18) (pc' := 95) (o := 77) rfl (hb hby d2_18) rfl (by decide) (by decide) (by decide) (by decide) ?_
    refine XS.aloadN X7.here hx rfl (hb hby d2_95) rfl rfl ?_
    show Steps p.tables e below (T7.setTop (mkF m 96 #[.val (.ref a_COMPLETED), .val (.ref a_SUSPENDED), .val (.ref a_PROVIDER)] [(.ref a_COMPLETED)])) _
    refine st12 _ ?_
    show Steps p.tables e below (T12.setTop (mkF m 99 #[.val (.ref a_COMPLETED), .val (.ref a_SUSPENDED), .val (.ref a_PROVIDER)] [(.ref a_STARTED), (.ref a_COMPLETED)])) _
    refine Jvm.RoadKit.acmp (g := (mkF m 99 #[.val (.ref a_COMPLETED), .val (.ref a_SUSPENDED), .val (.ref a_PROVIDER)] [(.ref a_STARTED), (.ref a_COMPLETED)])) X12 hx rfl rfl rfl (pc0 := 99) (pc' := 106) (same := false) rfl (hb hby d2_99) rfl (decide_eq_false fun q => f4 (Value.ref.inj q)) (by decide) (by decide) ?_
    refine XS.iconst X12.here hx rfl (hb hby d2_106) ?_
    refine XS.goto X12.here hx rfl (pc0 := 107) (pc' := 122) rfl (hb hby d2_107) (by decide) (by decide) ?_
    show Steps p.tables e below (T12.setTop (mkF m 122 #[.val (.ref a_COMPLETED), .val (.ref a_SUSPENDED), .val (.ref a_PROVIDER)] [(.int 0)])) _
    exact retN X12 hx (t := .boolean) Bd.returns (by simp) (hb hby d2_122) hr
  · show Q2_96 Z  h0 n0 _ T12.heap _
    rw [e12]
    exact ⟨rfl, N7, KK3⟩
set_option maxRecDepth 65536 in
set_option maxHeartbeats 40000000 in
theorem rm0_97 (l : Launch) (Z : State) (a0 : Array Value) (hw : ∀ d ∈ tables_1, d.before a0 Z = true) (ws : List Jvm.Cond) (p0 : Int32) (p1 : Int32) (p2 : Int32) (a_REQUESTED : Addr) (a_STARTED : Addr) (a_SUSPENDED : Addr) (a_COMPLETED : Addr) (a_TERMINATED : Addr) (a_PROVIDER : Addr) (h0 : Heap) (n0 : Nat) (Z0 : n0 ≤ h0.size) (f1 : S_0 Z h0 (.ref a_REQUESTED)) (f2 : E_0 Z h0 a_REQUESTED) (f3 : S_1 Z h0 (.ref a_STARTED)) (f4 : E_0 Z h0 a_STARTED) (f5 : S_2 Z h0 (.ref a_SUSPENDED)) (f6 : E_0 Z h0 a_SUSPENDED) (f7 : S_3 Z h0 (.ref a_COMPLETED)) (f8 : E_0 Z h0 a_COMPLETED) (f9 : S_4 Z h0 (.ref a_TERMINATED)) (f10 : E_0 Z h0 a_TERMINATED) (f11 : ((p0 &&& (2147483647 : Int32)) % (5 : Int32)) = (3 : Int32)) (f12 : ((p1 &&& (2147483647 : Int32)) % (5 : Int32)) = (2 : Int32)) (f13 : ¬ ((p2 &&& (1 : Int32)) = (0 : Int32))) (f14 : S_6 Z h0 (.ref a_PROVIDER)) (f15 : F_0 Z h0 a_SUSPENDED (.int 2)) (f16 : a_COMPLETED ≠ a_STARTED) :
    MetFree l x (head1 (Jvm.Cond.code x code maxLocals ret :: ws) room_1) (fun a U => a = #[(.int p0), (.int p1), (.int p2)] ∧ Z.Warmed39 U.vm ∧ U.heap = h0) (fun _ _ _ _ _ => True) (fun _ U o U' => ∃ v L, o = .returned v ∧ QT n0 v U'.heap L ∧ ReturnedEndW U o U' L room_1.cells room_1.slots) := by
  refine MetFree.of_bodySF (plainFor_of_name pn_com_example_offer_offer_model_TransferStateIsFinalPinLaw) hisR ?_
  intro p e s m args below meth c s₁ Bd hml0 hP hK
  obtain ⟨rfl, hZ, hh⟩ := hP
  have hx := Bd.exec
  have hby := Bd.bytes
  have hml : c.maxLocals = 10 := hml0
  have hown : s.vm.findClass "com/example/offer/offer/model/TransferStateIsFinalPinLaw" = some m.cls := findClass_of_methodNamed Bd.named
  have hnm := (name_of_methodNamed Bd.named Bd.method).1
  have X0 : Stand p l e room_1 s m #[(.int p0), (.int p1), (.int p2)] below meth c s₁ [] 0 0 := Stand.of_body Bd
  have e0 : s₁.heap = h0 := by rw [← hh, Bd.state]; rfl
  have N0 := Fr.nil n0
  obtain ⟨T1, h1, L1, b91, kc92, X1, e1, N1, K1, le_b91, o1_0, o1_1, st1⟩ := sg0_25 p0 p1 p2 a_REQUESTED a_STARTED a_SUSPENDED a_COMPLETED a_TERMINATED X0 hx hZ hw hby hml hown e0 N0 Z0 f1 f2 f3 f4 f5 f6 f7 f8 f9 f10
  have sz_b91 : h0.size ≤ b91 := Nat.le_trans (Nat.le_refl _) le_b91
  have g_b91 : n0 ≤ b91 := Nat.le_trans Z0 sz_b91
  have KK1 : Keep h0 h1 [] := (Keep.refl h0 []).trans K1 (fun x hx => nomatch hx)
  have u2 : S_6 Z h1 (.ref a_PROVIDER) := own_sta_keep f14 K1 (fun _ q => nomatch q)
  obtain ⟨T3, X3, e3, st3⟩ := getS2 X1 hx hZ hown (host := "") (Or.inl (tw_25 hw)) Via.refl e1 u2 (g := (mkF m 57 #[.val (.int p0), .val (.int p1), .val (.int p2), .val (.ref b91), .val (.int 3), .val (.int 2), .unset, .unset, .unset, .unset] [])) rfl (hb hby at_57)
  have va4 := o1_0
  obtain ⟨cl4, Ar4, -, S4, -, H4, -⟩ := va4
  have hin4 : ¬ ((3 : Int32) < 0 ∨ cl4.slots.size ≤ ((3 : Int32)).toNatClampNeg) := inb_of S4 ⟨by decide, by decide⟩
  have hat4 : cl4.slots[((3 : Int32)).toNatClampNeg]? = some (.ref a_COMPLETED) := H4 _ (Nat.lt_of_not_le fun y => hin4 (Or.inr y))
  -- pc 76: com/example/offer/offer/model/TransferState.isFinal
  have u5 : S_3 Z h1 (.ref a_COMPLETED) := own_sta_keep f7 K1 (fun _ q => nomatch q)
  have u7 : E_0 Z h1 a_COMPLETED := Exa.keep f8 K1
  obtain ⟨cq6, kq6, q6a, q6b, q6c⟩ := isOf hZ e3 u7
  obtain ⟨_, _, ⟨T6, L6, k6, n6⟩, -, X6, ⟨Lc6, hQ6, l6, y6, z6⟩, st6⟩ := X3.virtualBack hx (y := M_0) (z := M_0) hown (mvT hZ (tw_18 hw)) (mvT hZ (tw_19 hw)) (notFace_of_selects (args := #[]) (mvT hZ (tw_21 hw))) (mvT hZ (tw_21 hw)) (mvT hZ (tw_20 hw)) (by decide) (backOf (W := 0) (rm1_49 l Z a0 hw [] a_COMPLETED h1 n0 (Nat.le_trans Z0 KK1.1) u5) hZ (tw_22 hw) (tw_3 hw) (by decide) (by decide)) q6a q6c (g := (mkF m 76 #[.val (.int p0), .val (.int p1), .val (.int p2), .val (.ref b91), .val (.int 3), .val (.int 2), .val (.ref a_PROVIDER), .val (.ref a_COMPLETED), .unset, .unset] [(.ref a_COMPLETED)])) rfl (by rw [hml]; rfl) (Steps.refl _) (argsL := []) (rest := []) (lenOf pd_0 rfl) rfl (by show 2 * 0 + _ ≤ _; exact Nat.le_of_eq rfl) (hb hby at_76) (fun _ _ => ⟨rfl, e3, (by decide : 1 + 0 ≤ _), (by decide : 5 + 0 ≤ _)⟩)
  dsimp only [Pt.U, Pt.locs, Pt.cells, Pt.slots] at X6 l6 y6 z6 st6 hQ6
  subst l6 y6 z6
  obtain ⟨rfl, Nq6, e6⟩ := hQ6
  have N6 := Fr.app N1 Nq6
  have va8 := o1_0
  obtain ⟨cl8, Ar8, -, S8, -, H8, -⟩ := va8
  have hin8 : ¬ ((2 : Int32) < 0 ∨ cl8.slots.size ≤ ((2 : Int32)).toNatClampNeg) := inb_of S8 ⟨by decide, by decide⟩
  have hat8 : cl8.slots[((2 : Int32)).toNatClampNeg]? = some (.ref a_SUSPENDED) := H8 _ (Nat.lt_of_not_le fun y => hin8 (Or.inr y))
  -- pc 116: com/example/offer/offer/model/TransferState.canMoveTo
  have u9 : F_0 Z h1 a_SUSPENDED (.int 2) := Fld.keep f15 K1 List.not_mem_nil
  have u10 : E_0 Z h1 a_SUSPENDED := Exa.keep f6 K1
  have u11 : S_1 Z h1 (.ref a_STARTED) := own_sta_keep f3 K1 (fun _ q => nomatch q)
  obtain ⟨cq12, kq12, q12a, q12b, q12c⟩ := isOf hZ e6 u7
  obtain ⟨_, _, ⟨T12, L12, k12, n12⟩, -, X12, hS12, hg12, ⟨Lc12, hQ12, l12, y12, z12⟩, st12⟩ := X6.virtualBackS hx (y := M_4) (z := M_4) hown (mvT hZ (tw_27 hw)) (mvT hZ (tw_28 hw)) (notFace_of_selects (args := #[]) (mvT hZ (tw_30 hw))) (mvT hZ (tw_30 hw)) (mvT hZ (tw_29 hw)) (by decide) (backOfS (W := 0) (rm2_95 l Z a0 hw [] a_COMPLETED a_SUSPENDED a_PROVIDER a_STARTED h1 n0 (Nat.le_trans Z0 KK1.1) u9 u10 u11 f16) hZ (tw_31 hw) (tw_3 hw) (by decide) (by decide)) q12a q12c (g := (mkF m 116 #[.val (.int p0), .val (.int p1), .val (.int p2), .val (.ref b91), .val (.int 3), .val (.int 2), .val (.ref a_PROVIDER), .val (.ref a_COMPLETED), .val (.int 1), .val (.int 1)] [(.ref a_PROVIDER), (.ref a_SUSPENDED), (.ref a_COMPLETED)])) rfl (by rw [hml]; rfl) (Steps.refl _) (argsL := [(.ref a_SUSPENDED), (.ref a_PROVIDER)]) (rest := []) (lenOf pd_3 rfl) rfl (by show 2 * 0 + _ ≤ _; exact Nat.le_of_eq rfl) (hb hby at_116) (fun _ _ => ⟨rfl, e6, (by decide : 1 + 4 ≤ _), (by decide : 5 + 32 ≤ _)⟩)
  dsimp only [Pt.U, Pt.locs, Pt.cells, Pt.slots] at X12 l12 y12 z12 st12 hQ12 hS12 hg12
  subst l12 y12 z12
  have hZ12 : Z.Warmed39 (s.setVm T12.vm).vm := State.Warmed39.trans hZ hS12.1
  have hown12 : (s.setVm T12.vm).vm.findClass "com/example/offer/offer/model/TransferStateIsFinalPinLaw" = some m.cls := by rw [show (s.setVm T12.vm).vm = T12.vm from rfl, hS12.1.alike.findClass]; exact hown
  obtain ⟨rfl, Nq12, K12⟩ := hQ12
  have N12 := Fr.app N6 Nq12
  have KK12 : Keep h0 T12.heap [] := KK1.trans K12 (fun x hx => nomatch hx)
  obtain ⟨fs, hr, hrun, hended, hRE⟩ := X12.leaveW hS12 (by exact (Nat.le_refl _)) (v := (some (.int 1))) (fun h => by rw [Bd.returns] at h; cases h)
  refine ⟨_, _, castTop (ef0_III m p0 p1 p2) ?_, hrun, hended, _, _, rfl, ?_, hRE.1, hRE.2.1, hRE.2.2.1, hRE.2.2.2.mono (by decide) (by decide)⟩
  · show Steps p.tables e below (s₁.setTop (mkF m 0 #[.val (.int p0), .val (.int p1), .val (.int p2), .unset, .unset, .unset, .unset, .unset, .unset, .unset] [])) _
    refine st1 _ ?_
    refine XS.iloadN X1.here hx rfl (hb hby at_35) rfl ?_
    show Steps p.tables e below (T1.setTop (mkF m 36 #[.val (.int p0), .val (.int p1), .val (.int p2), .val (.ref b91), .unset, .unset, .unset, .unset, .unset, .unset] [(.int p0)])) _
    refine X1.ldcInt hx hown (mvT hZ (tw_14 hw)) (g := (mkF m 36 #[.val (.int p0), .val (.int p1), .val (.int p2), .val (.ref b91), .unset, .unset, .unset, .unset, .unset, .unset] [(.int p0)])) rfl (hb hby at_36) _ ?_
    show Steps p.tables e below (T1.setTop (mkF m 38 #[.val (.int p0), .val (.int p1), .val (.int p2), .val (.ref b91), .unset, .unset, .unset, .unset, .unset, .unset] [(.int 2147483647), (.int p0)])) _
    refine XS.iand X1.here hx rfl (hb hby at_38) rfl ?_
    refine XS.iconst X1.here hx rfl (hb hby at_39) ?_
    show Steps p.tables e below (T1.setTop (mkF m 40 #[.val (.int p0), .val (.int p1), .val (.int p2), .val (.ref b91), .unset, .unset, .unset, .unset, .unset, .unset] [(.int 5), (.int (p0 &&& (2147483647 : Int32)))])) _
    refine iremM X1 hx rfl (hb hby at_40) rfl (by decide) ?_
    show Steps p.tables e below (T1.setTop (mkF m 41 #[.val (.int p0), .val (.int p1), .val (.int p2), .val (.ref b91), .unset, .unset, .unset, .unset, .unset, .unset] [(.int ((p0 &&& (2147483647 : Int32)) % (5 : Int32)))])) _
    rw [f11]
    refine XS.istore X1.here hx rfl (hb hby at_41) rfl (l' := #[.val (.int p0), .val (.int p1), .val (.int p2), .val (.ref b91), .val (.int 3), .unset, .unset, .unset, .unset, .unset]) rfl ?_
    refine XS.iloadN X1.here hx rfl (hb hby at_43) rfl ?_
    show Steps p.tables e below (T1.setTop (mkF m 44 #[.val (.int p0), .val (.int p1), .val (.int p2), .val (.ref b91), .val (.int 3), .unset, .unset, .unset, .unset, .unset] [(.int p1)])) _
    refine X1.ldcInt hx hown (mvT hZ (tw_14 hw)) (g := (mkF m 44 #[.val (.int p0), .val (.int p1), .val (.int p2), .val (.ref b91), .val (.int 3), .unset, .unset, .unset, .unset, .unset] [(.int p1)])) rfl (hb hby at_44) _ ?_
    show Steps p.tables e below (T1.setTop (mkF m 46 #[.val (.int p0), .val (.int p1), .val (.int p2), .val (.ref b91), .val (.int 3), .unset, .unset, .unset, .unset, .unset] [(.int 2147483647), (.int p1)])) _
    refine XS.iand X1.here hx rfl (hb hby at_46) rfl ?_
    refine XS.iconst X1.here hx rfl (hb hby at_47) ?_
    show Steps p.tables e below (T1.setTop (mkF m 48 #[.val (.int p0), .val (.int p1), .val (.int p2), .val (.ref b91), .val (.int 3), .unset, .unset, .unset, .unset, .unset] [(.int 5), (.int (p1 &&& (2147483647 : Int32)))])) _
    refine iremM X1 hx rfl (hb hby at_48) rfl (by decide) ?_
    show Steps p.tables e below (T1.setTop (mkF m 49 #[.val (.int p0), .val (.int p1), .val (.int p2), .val (.ref b91), .val (.int 3), .unset, .unset, .unset, .unset, .unset] [(.int ((p1 &&& (2147483647 : Int32)) % (5 : Int32)))])) _
    rw [f12]
    refine XS.istore X1.here hx rfl (hb hby at_49) rfl (l' := #[.val (.int p0), .val (.int p1), .val (.int p2), .val (.ref b91), .val (.int 3), .val (.int 2), .unset, .unset, .unset, .unset]) rfl ?_
    refine XS.iloadN X1.here hx rfl (hb hby at_51) rfl ?_
    refine XS.iconst X1.here hx rfl (hb hby at_52) ?_
    show Steps p.tables e below (T1.setTop (mkF m 53 #[.val (.int p0), .val (.int p1), .val (.int p2), .val (.ref b91), .val (.int 3), .val (.int 2), .unset, .unset, .unset, .unset] [(.int 1), (.int p2)])) _
    refine XS.iand X1.here hx rfl (hb hby at_53) rfl ?_
    refine XS.ifNo X1.here hx rfl (hb hby at_54) rfl ((if0 _ _).trans (feq (f13 : ¬ ((p2 &&& (1 : Int32)) = (0 : Int32)))).1) ?_
    show Steps p.tables e below (T1.setTop (mkF m 57 #[.val (.int p0), .val (.int p1), .val (.int p2), .val (.ref b91), .val (.int 3), .val (.int 2), .unset, .unset, .unset, .unset] [])) _
    refine st3 _ ?_
    refine XS.goto X3.here hx rfl (pc0 := 60) (pc' := 66) rfl (hb hby at_60) (by decide) (by decide) ?_
    refine XS.astore X3.here hx rfl (hb hby at_66) rfl rfl (l' := #[.val (.int p0), .val (.int p1), .val (.int p2), .val (.ref b91), .val (.int 3), .val (.int 2), .val (.ref a_PROVIDER), .unset, .unset, .unset]) rfl ?_
    refine XS.aloadN X3.here hx rfl (hb hby at_68) rfl rfl ?_
    refine XS.iload X3.here hx rfl (hb hby at_69) rfl ?_
    show Steps p.tables e below (T3.setTop (mkF m 71 #[.val (.int p0), .val (.int p1), .val (.int p2), .val (.ref b91), .val (.int 3), .val (.int 2), .val (.ref a_PROVIDER), .unset, .unset, .unset] [(.int 3), (.ref b91)])) _
    refine X3.aaload hx (j := (3 : Int32)) (v := (.ref a_COMPLETED)) (by rw [e3]; exact Ar4.1) (State.isArrayOf_alike hZ.alike Ar4.2.1) rfl Ar4.2.2 hin4 hat4 (g := (mkF m 71 #[.val (.int p0), .val (.int p1), .val (.int p2), .val (.ref b91), .val (.int 3), .val (.int 2), .val (.ref a_PROVIDER), .unset, .unset, .unset] [(.int 3), (.ref b91)])) rfl rfl (hb hby at_71) _ ?_
    refine XS.astore X3.here hx rfl (hb hby at_72) rfl rfl (l' := #[.val (.int p0), .val (.int p1), .val (.int p2), .val (.ref b91), .val (.int 3), .val (.int 2), .val (.ref a_PROVIDER), .val (.ref a_COMPLETED), .unset, .unset]) rfl ?_
    refine XS.aload X3.here hx rfl (hb hby at_74) rfl rfl ?_
    show Steps p.tables e below (T3.setTop (mkF m 76 #[.val (.int p0), .val (.int p1), .val (.int p2), .val (.ref b91), .val (.int 3), .val (.int 2), .val (.ref a_PROVIDER), .val (.ref a_COMPLETED), .unset, .unset] [(.ref a_COMPLETED)])) _
    refine st6.trans ?_
    refine XS.istore X6.here hx rfl (hb hby at_79) rfl (l' := #[.val (.int p0), .val (.int p1), .val (.int p2), .val (.ref b91), .val (.int 3), .val (.int 2), .val (.ref a_PROVIDER), .val (.ref a_COMPLETED), .val (.int 1), .unset]) rfl ?_
    refine XS.iload X6.here hx rfl (hb hby at_81) rfl ?_
    refine XS.iconst X6.here hx rfl (hb hby at_83) ?_
    refine XS.icmpNo X6.here hx rfl (hb hby at_84) rfl (by decide) ?_
    show Steps p.tables e below (T6.setTop (mkF m 87 #[.val (.int p0), .val (.int p1), .val (.int p2), .val (.ref b91), .val (.int 3), .val (.int 2), .val (.ref a_PROVIDER), .val (.ref a_COMPLETED), .val (.int 1), .unset] [])) _
    refine XS.iconst X6.here hx rfl (hb hby at_87) ?_
    refine XS.goto X6.here hx rfl (pc0 := 88) (pc' := 92) rfl (hb hby at_88) (by decide) (by decide) ?_
    refine XS.istore X6.here hx rfl (hb hby at_92) rfl (l' := #[.val (.int p0), .val (.int p1), .val (.int p2), .val (.ref b91), .val (.int 3), .val (.int 2), .val (.ref a_PROVIDER), .val (.ref a_COMPLETED), .val (.int 1), .val (.int 1)]) rfl ?_
    refine XS.iload X6.here hx rfl (hb hby at_94) rfl ?_
    refine XS.iload X6.here hx rfl (hb hby at_96) rfl ?_
    show Steps p.tables e below (T6.setTop (mkF m 98 #[.val (.int p0), .val (.int p1), .val (.int p2), .val (.ref b91), .val (.int 3), .val (.int 2), .val (.ref a_PROVIDER), .val (.ref a_COMPLETED), .val (.int 1), .val (.int 1)] [(.int 1), (.int 1)])) _
    refine XS.icmpYes X6.here hx rfl (pc0 := 98) (pc' := 103) rfl (hb hby at_98) rfl (by decide) (by decide) (by decide) ?_
    refine XS.iload X6.here hx rfl (hb hby at_103) rfl ?_
    refine XS.ifNo X6.here hx rfl (hb hby at_105) rfl (by decide) ?_
    refine XS.aload X6.here hx rfl (hb hby at_108) rfl rfl ?_
    refine XS.aloadN X6.here hx rfl (hb hby at_110) rfl rfl ?_
    show Steps p.tables e below (T6.setTop (mkF m 111 #[.val (.int p0), .val (.int p1), .val (.int p2), .val (.ref b91), .val (.int 3), .val (.int 2), .val (.ref a_PROVIDER), .val (.ref a_COMPLETED), .val (.int 1), .val (.int 1)] [(.ref b91), (.ref a_COMPLETED)])) _
    refine XS.iload X6.here hx rfl (hb hby at_111) rfl ?_
    show Steps p.tables e below (T6.setTop (mkF m 113 #[.val (.int p0), .val (.int p1), .val (.int p2), .val (.ref b91), .val (.int 3), .val (.int 2), .val (.ref a_PROVIDER), .val (.ref a_COMPLETED), .val (.int 1), .val (.int 1)] [(.int 2), (.ref b91), (.ref a_COMPLETED)])) _
    refine X6.aaload hx (j := (2 : Int32)) (v := (.ref a_SUSPENDED)) (by rw [e6]; exact Ar8.1) (State.isArrayOf_alike hZ.alike Ar8.2.1) rfl Ar8.2.2 hin8 hat8 (g := (mkF m 113 #[.val (.int p0), .val (.int p1), .val (.int p2), .val (.ref b91), .val (.int 3), .val (.int 2), .val (.ref a_PROVIDER), .val (.ref a_COMPLETED), .val (.int 1), .val (.int 1)] [(.int 2), (.ref b91), (.ref a_COMPLETED)])) rfl rfl (hb hby at_113) _ ?_
    refine XS.aload X6.here hx rfl (hb hby at_114) rfl rfl ?_
    show Steps p.tables e below (T6.setTop (mkF m 116 #[.val (.int p0), .val (.int p1), .val (.int p2), .val (.ref b91), .val (.int 3), .val (.int 2), .val (.ref a_PROVIDER), .val (.ref a_COMPLETED), .val (.int 1), .val (.int 1)] [(.ref a_PROVIDER), (.ref a_SUSPENDED), (.ref a_COMPLETED)])) _
    refine st12.trans ?_
    refine XS.ifYes X12.here hx rfl (pc0 := 119) (pc' := 124) rfl (hb hby at_119) rfl (by decide) (by decide) (by decide) ?_
    refine XS.iconst X12.here hx rfl (hb hby at_124) ?_
    show Steps p.tables e below (T12.setTop (mkF m 125 #[.val (.int p0), .val (.int p1), .val (.int p2), .val (.ref b91), .val (.int 3), .val (.int 2), .val (.ref a_PROVIDER), .val (.ref a_COMPLETED), .val (.int 1), .val (.int 1)] [(.int 1)])) _
    exact retN X12 hx (t := .boolean) Bd.returns (by simp) (hb hby at_125) hr
  · show QT n0 _ T12.heap _
    exact ⟨rfl, N12⟩
set_option maxRecDepth 65536 in
set_option maxHeartbeats 40000000 in
theorem rm3_101 (l : Launch) (Z : State) (a0 : Array Value) (hw : ∀ d ∈ tables_1, d.before a0 Z = true) (ws : List Jvm.Cond) (a_COMPLETED : Addr) (c0_a : Addr) (h0 : Heap) (n0 : Nat) (Z0 : n0 ≤ h0.size) :
    MetFree l M_1 (head1 (Jvm.Cond.code M_1 jdk_31_method_11_code 2 (some (.object "java/lang/Object")) :: ws) R_0_0_0_0) (fun a U => a = #[(.ref a_COMPLETED), (.ref c0_a)] ∧ Z.Warmed39 U.vm ∧ U.heap = h0) (fun _ _ _ _ _ => True) (fun _ U o U' => ∃ v L, o = .returned v ∧ QP (some (.ref a_COMPLETED)) h0 n0 v U'.heap L ∧ FrameEnd U o U' L R_0_0_0_0.cells R_0_0_0_0.slots) := by
  refine MetFree.of_bodySF (plainFor_of_name pn_java_util_Objects) hisR ?_
  intro p e s m args below meth c s₁ Bd hml0 hP hK
  obtain ⟨rfl, hZ, hh⟩ := hP
  have hx := Bd.exec
  have hby := Bd.bytes
  have hml : c.maxLocals = 2 := hml0
  have hown : s.vm.findClass "java/util/Objects" = some m.cls := findClass_of_methodNamed Bd.named
  have hnm := (name_of_methodNamed Bd.named Bd.method).1
  have X0 : Stand p l e R_0_0_0_0 s m #[(.ref a_COMPLETED), (.ref c0_a)] below meth c s₁ [] 0 0 := Stand.of_body Bd
  have e0 : s₁.heap = h0 := by rw [← hh, Bd.state]; rfl
  have N0 := Fr.nil n0
  obtain ⟨fs, hr, hrun, hended, hW, hsame⟩ := X0.leave (v := (some (.ref a_COMPLETED))) (fun h => by rw [Bd.returns] at h; cases h)
  refine ⟨_, _, castTop (ef3_RR m a_COMPLETED c0_a) ?_, hrun, hended, _, _, rfl, ?_, ⟨_, rfl⟩, hW, hsame.mono (by decide) (by decide)⟩
  · show Steps p.tables e below (s₁.setTop (mkF m 0 #[.val (.ref a_COMPLETED), .val (.ref c0_a)] [])) _
    refine XS.aloadN X0.here hx rfl (hb hby d3_0) rfl rfl ?_
    refine XS.ifnonnullYes X0.here hx rfl (pc0 := 1) (pc' := 13) rfl (hb hby d3_1) rfl (by decide) (by decide) ?_
    refine XS.aloadN X0.here hx rfl (hb hby d3_13) rfl rfl ?_
    show Steps p.tables e below (s₁.setTop (mkF m 14 #[.val (.ref a_COMPLETED), .val (.ref c0_a)] [(.ref a_COMPLETED)])) _
    jvm_step X0.here [X0.here.top, hx, (hb hby d3_14), X0.method', Bd.returns, Value.isRef, FieldType.isReference]
    first | (intro acts; rw [hr _ acts rfl rfl rfl]) | rw [hr _ _ rfl rfl rfl]
    exact Steps.refl _
  · show QP (some (.ref a_COMPLETED)) h0 n0 _ s₁.heap _
    rw [e0]
    exact ⟨rfl, N0, rfl⟩
set_option maxRecDepth 65536 in
set_option maxHeartbeats 40000000 in
theorem rm4_103 (l : Launch) (Z : State) (a0 : Array Value) (hw : ∀ d ∈ tables_1, d.before a0 Z = true) (ws : List Jvm.Cond) (a_COMPLETED : Addr) (h0 : Heap) (n0 : Nat) (Z0 : n0 ≤ h0.size) (f1 : F_0 Z h0 a_COMPLETED (.int 3)) :
    MetFree l M_2 (head1 (Jvm.Cond.code M_2 jdk_37_method_2_code 1 (some .int) :: ws) R_0_0_0_0) (fun a U => a = #[(.ref a_COMPLETED)] ∧ Z.Warmed39 U.vm ∧ U.heap = h0) (fun _ _ _ _ _ => True) (fun _ U o U' => ∃ v L, o = .returned v ∧ QP (some (.int 3)) h0 n0 v U'.heap L ∧ FrameEnd U o U' L R_0_0_0_0.cells R_0_0_0_0.slots) := by
  refine MetFree.of_bodySF (plainFor_of_name pn_java_lang_Enum) hisR ?_
  intro p e s m args below meth c s₁ Bd hml0 hP hK
  obtain ⟨rfl, hZ, hh⟩ := hP
  have hx := Bd.exec
  have hby := Bd.bytes
  have hml : c.maxLocals = 1 := hml0
  have hown : s.vm.findClass "java/lang/Enum" = some m.cls := findClass_of_methodNamed Bd.named
  have hnm := (name_of_methodNamed Bd.named Bd.method).1
  have X0 : Stand p l e R_0_0_0_0 s m #[(.ref a_COMPLETED)] below meth c s₁ [] 0 0 := Stand.of_body Bd
  have e0 : s₁.heap = h0 := by rw [← hh, Bd.state]; rfl
  have N0 := Fr.nil n0
  obtain ⟨T1, X1, e1, st1⟩ := getF X0 hx hZ hown (host := "") (Or.inl (tw_52 hw)) Via.refl e0 f1 (g := (mkF m 1 #[.val (.ref a_COMPLETED)] [(.ref a_COMPLETED)])) rfl rfl (hb hby d4_1)
  obtain ⟨fs, hr, hrun, hended, hW, hsame⟩ := X1.leave (v := (some (.int 3))) (fun h => by rw [Bd.returns] at h; cases h)
  refine ⟨_, _, castTop (ef4_R m a_COMPLETED) ?_, hrun, hended, _, _, rfl, ?_, ⟨_, rfl⟩, hW, hsame.mono (by decide) (by decide)⟩
  · show Steps p.tables e below (s₁.setTop (mkF m 0 #[.val (.ref a_COMPLETED)] [])) _
    refine XS.aloadN X0.here hx rfl (hb hby d4_0) rfl rfl ?_
    show Steps p.tables e below (s₁.setTop (mkF m 1 #[.val (.ref a_COMPLETED)] [(.ref a_COMPLETED)])) _
    refine st1 _ ?_
    show Steps p.tables e below (T1.setTop (mkF m 4 #[.val (.ref a_COMPLETED)] [(.int 3)])) _
    exact retI X1 hx Bd.returns (hb hby d4_4) hr
  · show QP (some (.int 3)) h0 n0 _ T1.heap _
    rw [e1]
    exact ⟨rfl, N0, rfl⟩
def Q2_105 (Z : State)  (h0 : Heap) (n0 : Nat) (v : Option Value) (h : Heap) (L : List Loc) : Prop := v = (some (.int 0)) ∧ Fr n0 L ∧ Keep h0 h []
set_option maxRecDepth 65536 in
set_option maxHeartbeats 40000000 in
theorem rm2_104 (l : Launch) (Z : State) (a0 : Array Value) (hw : ∀ d ∈ tables_1, d.before a0 Z = true) (ws : List Jvm.Cond) (a_COMPLETED : Addr) (a_CONSUMER : Addr) (a_STARTED : Addr) (h0 : Heap) (n0 : Nat) (Z0 : n0 ≤ h0.size) (f1 : F_0 Z h0 a_COMPLETED (.int 3)) (f2 : E_0 Z h0 a_COMPLETED) (f3 : S_1 Z h0 (.ref a_STARTED)) (f4 : a_COMPLETED ≠ a_STARTED) :
    MetFree l M_4 (head1 (Jvm.Cond.code M_4 prog_6_method_5_code 3 (some .boolean) :: ws) R_1_4_32_13) (fun a U => a = #[(.ref a_COMPLETED), (.ref a_COMPLETED), (.ref a_CONSUMER)] ∧ Z.Warmed39 U.vm ∧ U.heap = h0) (fun _ _ _ _ _ => True) (fun _ U o U' => ∃ v L, o = .returned v ∧ Q2_105 Z  h0 n0 v U'.heap L ∧ ReturnedEndW U o U' L R_1_4_32_13.cells R_1_4_32_13.slots) := by
  refine MetFree.of_bodySF (plainFor_of_name pn_com_example_offer_offer_model_TransferState) hisR ?_
  intro p e s m args below meth c s₁ Bd hml0 hP hK
  obtain ⟨rfl, hZ, hh⟩ := hP
  have hx := Bd.exec
  have hby := Bd.bytes
  have hml : c.maxLocals = 3 := hml0
  have hown : s.vm.findClass "com/example/offer/offer/model/TransferState" = some m.cls := findClass_of_methodNamed Bd.named
  have hnm := (name_of_methodNamed Bd.named Bd.method).1
  have X0 : Stand p l e R_1_4_32_13 s m #[(.ref a_COMPLETED), (.ref a_COMPLETED), (.ref a_CONSUMER)] below meth c s₁ [] 0 0 := Stand.of_body Bd
  have e0 : s₁.heap = h0 := by rw [← hh, Bd.state]; rfl
  have N0 := Fr.nil n0
  obtain ⟨ax100, T1, h1, kz1, X1, e1, E1, hS1, hk1, hZ1, hown1, st1⟩ := ldcS (s := s) (vm0 := s.vm) X0 hx hZ hown (tw_32 hw) (own_strs hw) e0 ((State.WarmedH.refl s).since 0) (Nat.zero_le _) (g := (mkF m 1 #[.val (.ref a_COMPLETED), .val (.ref a_COMPLETED), .val (.ref a_CONSUMER)] [(.ref a_COMPLETED)])) rfl (hb hby d2_1) (n := 16) (by decide) (by decide) (by decide) (by decide)
  have KK1 : Keep h0 h1 [] := (Keep.refl h0 []).ext E1
  -- pc 3: java/util/Objects.requireNonNull
  obtain ⟨_, _, ⟨T2, L2, k2, n2⟩, -, X2, ⟨Lc2, hQ2, l2, y2, z2⟩, st2⟩ := Jvm.LawKit.callS X1 hx (y := M_1) hown1 (mvT hZ1 (tw_40 hw)) (mvT hZ1 (tw_41 hw)) (mvT hZ1 (tw_42 hw)) (mvT hZ1 (tw_43 hw)) (by decide) (backOf (W := 0) (rm3_101 l Z a0 hw [] a_COMPLETED ax100 h1 n0 (Nat.le_trans Z0 KK1.1) ) hZ1 (tw_43 hw) (tw_42 hw) (by decide) (by decide)) (g := (mkF m 3 #[.val (.ref a_COMPLETED), .val (.ref a_COMPLETED), .val (.ref a_CONSUMER)] [(.ref ax100), (.ref a_COMPLETED)])) rfl (by rw [hml]; rfl) (argsL := [(.ref a_COMPLETED), (.ref ax100)]) (rest := []) (lenOf pd_1 rfl) rfl (by show 2 * 0 + _ ≤ _; exact Nat.le_of_eq rfl) (hb hby d2_3) (fun _ _ => ⟨rfl, e1, (by decide : 2 + 0 ≤ _), (by decide : 20 + 0 ≤ _)⟩)
  dsimp only [Pt.U, Pt.locs, Pt.cells, Pt.slots] at X2 l2 y2 z2 st2 hQ2
  subst l2 y2 z2
  obtain ⟨rfl, Nq2, e2⟩ := hQ2
  have N2 := Fr.app N0 Nq2
  obtain ⟨ax102, T3, h3, kz3, X3, e3, E3, hS3, hk3, hZ3, hown3, st3⟩ := ldcS (s := s) (vm0 := T1.vm) X2 hx hZ1 hown1 (tw_44 hw) (own_strs hw) e2 hS1 hk1 (g := (mkF m 8 #[.val (.ref a_COMPLETED), .val (.ref a_COMPLETED), .val (.ref a_CONSUMER)] [(.ref a_CONSUMER)])) rfl (hb hby d2_8) (n := 8) (by decide) (by decide) (by decide) (by decide)
  have KK3 : Keep h0 h3 [] := KK1.ext E3
  -- pc 10: java/util/Objects.requireNonNull
  obtain ⟨_, _, ⟨T4, L4, k4, n4⟩, -, X4, ⟨Lc4, hQ4, l4, y4, z4⟩, st4⟩ := Jvm.LawKit.callS X3 hx (y := M_1) hown3 (mvT hZ3 (tw_40 hw)) (mvT hZ3 (tw_41 hw)) (mvT hZ3 (tw_42 hw)) (mvT hZ3 (tw_43 hw)) (by decide) (backOf (W := 0) (rm3_53 l Z a0 hw [] a_CONSUMER ax102 h3 n0 (Nat.le_trans Z0 KK3.1) ) hZ3 (tw_43 hw) (tw_42 hw) (by decide) (by decide)) (g := (mkF m 10 #[.val (.ref a_COMPLETED), .val (.ref a_COMPLETED), .val (.ref a_CONSUMER)] [(.ref ax102), (.ref a_CONSUMER)])) rfl (by rw [hml]; rfl) (argsL := [(.ref a_CONSUMER), (.ref ax102)]) (rest := []) (lenOf pd_1 rfl) rfl (by show 2 * 0 + _ ≤ _; exact Nat.le_of_eq rfl) (hb hby d2_10) (fun _ _ => ⟨rfl, e3, (by decide : 4 + 0 ≤ _), (by decide : 32 + 0 ≤ _)⟩)
  dsimp only [Pt.U, Pt.locs, Pt.cells, Pt.slots] at X4 l4 y4 z4 st4 hQ4
  subst l4 y4 z4
  obtain ⟨rfl, Nq4, e4⟩ := hQ4
  have N4 := Fr.app N2 Nq4
  -- pc 15: java/lang/Enum.ordinal
  have u5 : F_0 Z h1 a_COMPLETED (.int 3) := Fld.ext E1 f1
  have u6 : F_0 Z h3 a_COMPLETED (.int 3) := Fld.ext E3 u5
  have u8 : E_0 Z h1 a_COMPLETED := Exa.ext E1 f2
  have u9 : E_0 Z h3 a_COMPLETED := Exa.ext E3 u8
  obtain ⟨cq7, kq7, q7a, q7b, q7c⟩ := isOf hZ3 e4 u9
  obtain ⟨_, _, ⟨T7, L7, k7, n7⟩, -, X7, ⟨Lc7, hQ7, l7, y7, z7⟩, st7⟩ := X4.virtualBackUp hx (x := M_3) (y := M_2) (owner := "java/lang/Enum") hown3 (mvT hZ3 (tw_45 hw)) (mvT hZ3 (tw_46 hw)) (mvT hZ3 (tw_47 hw)) (by decide) (mvT hZ3 (tw_49 hw)) (mvT hZ3 (tw_48 hw)) (backOf (W := 0) (rm4_103 l Z a0 hw [] a_COMPLETED h3 n0 (Nat.le_trans Z0 KK3.1) u6) hZ3 (tw_51 hw) (tw_50 hw) (by decide) (by decide)) q7a q7c (g := (mkF m 15 #[.val (.ref a_COMPLETED), .val (.ref a_COMPLETED), .val (.ref a_CONSUMER)] [(.ref a_COMPLETED)])) rfl (by rw [hml]; rfl) (Steps.refl _) (argsL := []) (rest := []) (lenOf pd_2 rfl) rfl (by show 2 * 0 + _ ≤ _; exact Nat.le_of_eq rfl) (hb hby d2_15) (fun _ _ => ⟨rfl, e4, (by decide : 4 + 0 ≤ _), (by decide : 32 + 0 ≤ _)⟩)
  dsimp only [Pt.U, Pt.locs, Pt.cells, Pt.slots] at X7 l7 y7 z7 st7 hQ7
  subst l7 y7 z7
  obtain ⟨rfl, Nq7, e7⟩ := hQ7
  have N7 := Fr.app N4 Nq7
  have u10 : S_1 Z h1 (.ref a_STARTED) := Sta.ext E1 f3
  have u11 : S_1 Z h3 (.ref a_STARTED) := Sta.ext E3 u10
  obtain ⟨T12, X12, e12, st12⟩ := getS2 X7 hx hZ3 hown3 (host := "") (Or.inl (tw_57 hw)) Via.refl e7 u11 (g := (mkF m 96 #[.val (.ref a_COMPLETED), .val (.ref a_COMPLETED), .val (.ref a_CONSUMER)] [(.ref a_COMPLETED)])) rfl (hb hby d2_96)
  obtain ⟨fs, hr, hrun, hended, hRE⟩ := X12.leaveW hS3 (by rw [e12]; exact hk3) (v := (some (.int 0))) (fun h => by rw [Bd.returns] at h; cases h)
  refine ⟨_, _, castTop (ef2_RRR m a_COMPLETED a_COMPLETED a_CONSUMER) ?_, hrun, hended, _, _, rfl, ?_, hRE.1, hRE.2.1, hRE.2.2.1, hRE.2.2.2.mono (by decide) (by decide)⟩
  · show Steps p.tables e below (s₁.setTop (mkF m 0 #[.val (.ref a_COMPLETED), .val (.ref a_COMPLETED), .val (.ref a_CONSUMER)] [])) _
    refine XS.aloadN X0.here hx rfl (hb hby d2_0) rfl rfl ?_
    show Steps p.tables e below (s₁.setTop (mkF m 1 #[.val (.ref a_COMPLETED), .val (.ref a_COMPLETED), .val (.ref a_CONSUMER)] [(.ref a_COMPLETED)])) _
    refine st1 _ ?_
    show Steps p.tables e below (T1.setTop (mkF m 3 #[.val (.ref a_COMPLETED), .val (.ref a_COMPLETED), .val (.ref a_CONSUMER)] [(.ref ax100), (.ref a_COMPLETED)])) _
    refine st2 _ ?_
    refine XS.pop X2.here hx rfl (hb hby d2_6) rfl rfl ?_
    refine XS.aloadN X2.here hx rfl (hb hby d2_7) rfl rfl ?_
    show Steps p.tables e below (T2.setTop (mkF m 8 #[.val (.ref a_COMPLETED), .val (.ref a_COMPLETED), .val (.ref a_CONSUMER)] [(.ref a_CONSUMER)])) _
    refine st3 _ ?_
    show Steps p.tables e below (T3.setTop (mkF m 10 #[.val (.ref a_COMPLETED), .val (.ref a_COMPLETED), .val (.ref a_CONSUMER)] [(.ref ax102), (.ref a_CONSUMER)])) _
    refine st4 _ ?_
    refine XS.pop X4.here hx rfl (hb hby d2_13) rfl rfl ?_
    refine XS.aloadN X4.here hx rfl (hb hby d2_14) rfl rfl ?_
    show Steps p.tables e below (T4.setTop (mkF m 15 #[.val (.ref a_COMPLETED), .val (.ref a_COMPLETED), .val (.ref a_CONSUMER)] [(.ref a_COMPLETED)])) _
    refine st7.trans ?_
    show Steps p.tables e below (T7.setTop (mkF m 18 #[.val (.ref a_COMPLETED), .val (.ref a_COMPLETED), .val (.ref a_CONSUMER)] [(.int 3)])) _
    refine XS.tswIn X7.here hx rfl (pc0 := 18) (pc' := 95) (o := 77) rfl (hb hby d2_18) rfl (by decide) (by decide) (by decide) (by decide) ?_
    refine XS.aloadN X7.here hx rfl (hb hby d2_95) rfl rfl ?_
    show Steps p.tables e below (T7.setTop (mkF m 96 #[.val (.ref a_COMPLETED), .val (.ref a_COMPLETED), .val (.ref a_CONSUMER)] [(.ref a_COMPLETED)])) _
    refine st12 _ ?_
    show Steps p.tables e below (T12.setTop (mkF m 99 #[.val (.ref a_COMPLETED), .val (.ref a_COMPLETED), .val (.ref a_CONSUMER)] [(.ref a_STARTED), (.ref a_COMPLETED)])) _
    refine Jvm.RoadKit.acmp (g := (mkF m 99 #[.val (.ref a_COMPLETED), .val (.ref a_COMPLETED), .val (.ref a_CONSUMER)] [(.ref a_STARTED), (.ref a_COMPLETED)])) X12 hx rfl rfl rfl (pc0 := 99) (pc' := 106) (same := false) rfl (hb hby d2_99) rfl (decide_eq_false fun q => f4 (Value.ref.inj q)) (by decide) (by decide) ?_
    refine XS.iconst X12.here hx rfl (hb hby d2_106) ?_
    refine XS.goto X12.here hx rfl (pc0 := 107) (pc' := 122) rfl (hb hby d2_107) (by decide) (by decide) ?_
    show Steps p.tables e below (T12.setTop (mkF m 122 #[.val (.ref a_COMPLETED), .val (.ref a_COMPLETED), .val (.ref a_CONSUMER)] [(.int 0)])) _
    exact retN X12 hx (t := .boolean) Bd.returns (by simp) (hb hby d2_122) hr
  · show Q2_105 Z  h0 n0 _ T12.heap _
    rw [e12]
    exact ⟨rfl, N7, KK3⟩
set_option maxRecDepth 65536 in
set_option maxHeartbeats 40000000 in
theorem rm0_106 (l : Launch) (Z : State) (a0 : Array Value) (hw : ∀ d ∈ tables_1, d.before a0 Z = true) (ws : List Jvm.Cond) (p0 : Int32) (p1 : Int32) (p2 : Int32) (a_REQUESTED : Addr) (a_STARTED : Addr) (a_SUSPENDED : Addr) (a_COMPLETED : Addr) (a_TERMINATED : Addr) (a_CONSUMER : Addr) (h0 : Heap) (n0 : Nat) (Z0 : n0 ≤ h0.size) (f1 : S_0 Z h0 (.ref a_REQUESTED)) (f2 : E_0 Z h0 a_REQUESTED) (f3 : S_1 Z h0 (.ref a_STARTED)) (f4 : E_0 Z h0 a_STARTED) (f5 : S_2 Z h0 (.ref a_SUSPENDED)) (f6 : E_0 Z h0 a_SUSPENDED) (f7 : S_3 Z h0 (.ref a_COMPLETED)) (f8 : E_0 Z h0 a_COMPLETED) (f9 : S_4 Z h0 (.ref a_TERMINATED)) (f10 : E_0 Z h0 a_TERMINATED) (f11 : ((p0 &&& (2147483647 : Int32)) % (5 : Int32)) = (3 : Int32)) (f12 : ((p1 &&& (2147483647 : Int32)) % (5 : Int32)) = (3 : Int32)) (f13 : (p2 &&& (1 : Int32)) = (0 : Int32)) (f14 : S_5 Z h0 (.ref a_CONSUMER)) (f15 : F_0 Z h0 a_COMPLETED (.int 3)) (f16 : a_COMPLETED ≠ a_STARTED) :
    MetFree l x (head1 (Jvm.Cond.code x code maxLocals ret :: ws) room_1) (fun a U => a = #[(.int p0), (.int p1), (.int p2)] ∧ Z.Warmed39 U.vm ∧ U.heap = h0) (fun _ _ _ _ _ => True) (fun _ U o U' => ∃ v L, o = .returned v ∧ QT n0 v U'.heap L ∧ ReturnedEndW U o U' L room_1.cells room_1.slots) := by
  refine MetFree.of_bodySF (plainFor_of_name pn_com_example_offer_offer_model_TransferStateIsFinalPinLaw) hisR ?_
  intro p e s m args below meth c s₁ Bd hml0 hP hK
  obtain ⟨rfl, hZ, hh⟩ := hP
  have hx := Bd.exec
  have hby := Bd.bytes
  have hml : c.maxLocals = 10 := hml0
  have hown : s.vm.findClass "com/example/offer/offer/model/TransferStateIsFinalPinLaw" = some m.cls := findClass_of_methodNamed Bd.named
  have hnm := (name_of_methodNamed Bd.named Bd.method).1
  have X0 : Stand p l e room_1 s m #[(.int p0), (.int p1), (.int p2)] below meth c s₁ [] 0 0 := Stand.of_body Bd
  have e0 : s₁.heap = h0 := by rw [← hh, Bd.state]; rfl
  have N0 := Fr.nil n0
  obtain ⟨T1, h1, L1, b98, kc99, X1, e1, N1, K1, le_b98, o1_0, o1_1, st1⟩ := sg0_25 p0 p1 p2 a_REQUESTED a_STARTED a_SUSPENDED a_COMPLETED a_TERMINATED X0 hx hZ hw hby hml hown e0 N0 Z0 f1 f2 f3 f4 f5 f6 f7 f8 f9 f10
  have sz_b98 : h0.size ≤ b98 := Nat.le_trans (Nat.le_refl _) le_b98
  have g_b98 : n0 ≤ b98 := Nat.le_trans Z0 sz_b98
  have KK1 : Keep h0 h1 [] := (Keep.refl h0 []).trans K1 (fun x hx => nomatch hx)
  have u2 : S_5 Z h1 (.ref a_CONSUMER) := own_sta_keep f14 K1 (fun _ q => nomatch q)
  obtain ⟨T3, X3, e3, st3⟩ := getS2 X1 hx hZ hown (host := "") (Or.inl (tw_15 hw)) Via.refl e1 u2 (g := (mkF m 63 #[.val (.int p0), .val (.int p1), .val (.int p2), .val (.ref b98), .val (.int 3), .val (.int 3), .unset, .unset, .unset, .unset] [])) rfl (hb hby at_63)
  have va4 := o1_0
  obtain ⟨cl4, Ar4, -, S4, -, H4, -⟩ := va4
  have hin4 : ¬ ((3 : Int32) < 0 ∨ cl4.slots.size ≤ ((3 : Int32)).toNatClampNeg) := inb_of S4 ⟨by decide, by decide⟩
  have hat4 : cl4.slots[((3 : Int32)).toNatClampNeg]? = some (.ref a_COMPLETED) := H4 _ (Nat.lt_of_not_le fun y => hin4 (Or.inr y))
  -- pc 76: com/example/offer/offer/model/TransferState.isFinal
  have u5 : S_3 Z h1 (.ref a_COMPLETED) := own_sta_keep f7 K1 (fun _ q => nomatch q)
  have u7 : E_0 Z h1 a_COMPLETED := Exa.keep f8 K1
  obtain ⟨cq6, kq6, q6a, q6b, q6c⟩ := isOf hZ e3 u7
  obtain ⟨_, _, ⟨T6, L6, k6, n6⟩, -, X6, ⟨Lc6, hQ6, l6, y6, z6⟩, st6⟩ := X3.virtualBack hx (y := M_0) (z := M_0) hown (mvT hZ (tw_18 hw)) (mvT hZ (tw_19 hw)) (notFace_of_selects (args := #[]) (mvT hZ (tw_21 hw))) (mvT hZ (tw_21 hw)) (mvT hZ (tw_20 hw)) (by decide) (backOf (W := 0) (rm1_49 l Z a0 hw [] a_COMPLETED h1 n0 (Nat.le_trans Z0 KK1.1) u5) hZ (tw_22 hw) (tw_3 hw) (by decide) (by decide)) q6a q6c (g := (mkF m 76 #[.val (.int p0), .val (.int p1), .val (.int p2), .val (.ref b98), .val (.int 3), .val (.int 3), .val (.ref a_CONSUMER), .val (.ref a_COMPLETED), .unset, .unset] [(.ref a_COMPLETED)])) rfl (by rw [hml]; rfl) (Steps.refl _) (argsL := []) (rest := []) (lenOf pd_0 rfl) rfl (by show 2 * 0 + _ ≤ _; exact Nat.le_of_eq rfl) (hb hby at_76) (fun _ _ => ⟨rfl, e3, (by decide : 1 + 0 ≤ _), (by decide : 5 + 0 ≤ _)⟩)
  dsimp only [Pt.U, Pt.locs, Pt.cells, Pt.slots] at X6 l6 y6 z6 st6 hQ6
  subst l6 y6 z6
  obtain ⟨rfl, Nq6, e6⟩ := hQ6
  have N6 := Fr.app N1 Nq6
  have va8 := o1_0
  obtain ⟨cl8, Ar8, -, S8, -, H8, -⟩ := va8
  have hin8 : ¬ ((3 : Int32) < 0 ∨ cl8.slots.size ≤ ((3 : Int32)).toNatClampNeg) := inb_of S8 ⟨by decide, by decide⟩
  have hat8 : cl8.slots[((3 : Int32)).toNatClampNeg]? = some (.ref a_COMPLETED) := H8 _ (Nat.lt_of_not_le fun y => hin8 (Or.inr y))
  -- pc 116: com/example/offer/offer/model/TransferState.canMoveTo
  have u9 : F_0 Z h1 a_COMPLETED (.int 3) := Fld.keep f15 K1 List.not_mem_nil
  have u10 : S_1 Z h1 (.ref a_STARTED) := own_sta_keep f3 K1 (fun _ q => nomatch q)
  obtain ⟨cq11, kq11, q11a, q11b, q11c⟩ := isOf hZ e6 u7
  obtain ⟨_, _, ⟨T11, L11, k11, n11⟩, -, X11, hS11, hg11, ⟨Lc11, hQ11, l11, y11, z11⟩, st11⟩ := X6.virtualBackS hx (y := M_4) (z := M_4) hown (mvT hZ (tw_27 hw)) (mvT hZ (tw_28 hw)) (notFace_of_selects (args := #[]) (mvT hZ (tw_30 hw))) (mvT hZ (tw_30 hw)) (mvT hZ (tw_29 hw)) (by decide) (backOfS (W := 0) (rm2_104 l Z a0 hw [] a_COMPLETED a_CONSUMER a_STARTED h1 n0 (Nat.le_trans Z0 KK1.1) u9 u7 u10 f16) hZ (tw_31 hw) (tw_3 hw) (by decide) (by decide)) q11a q11c (g := (mkF m 116 #[.val (.int p0), .val (.int p1), .val (.int p2), .val (.ref b98), .val (.int 3), .val (.int 3), .val (.ref a_CONSUMER), .val (.ref a_COMPLETED), .val (.int 1), .val (.int 1)] [(.ref a_CONSUMER), (.ref a_COMPLETED), (.ref a_COMPLETED)])) rfl (by rw [hml]; rfl) (Steps.refl _) (argsL := [(.ref a_COMPLETED), (.ref a_CONSUMER)]) (rest := []) (lenOf pd_3 rfl) rfl (by show 2 * 0 + _ ≤ _; exact Nat.le_of_eq rfl) (hb hby at_116) (fun _ _ => ⟨rfl, e6, (by decide : 1 + 4 ≤ _), (by decide : 5 + 32 ≤ _)⟩)
  dsimp only [Pt.U, Pt.locs, Pt.cells, Pt.slots] at X11 l11 y11 z11 st11 hQ11 hS11 hg11
  subst l11 y11 z11
  have hZ11 : Z.Warmed39 (s.setVm T11.vm).vm := State.Warmed39.trans hZ hS11.1
  have hown11 : (s.setVm T11.vm).vm.findClass "com/example/offer/offer/model/TransferStateIsFinalPinLaw" = some m.cls := by rw [show (s.setVm T11.vm).vm = T11.vm from rfl, hS11.1.alike.findClass]; exact hown
  obtain ⟨rfl, Nq11, K11⟩ := hQ11
  have N11 := Fr.app N6 Nq11
  have KK11 : Keep h0 T11.heap [] := KK1.trans K11 (fun x hx => nomatch hx)
  obtain ⟨fs, hr, hrun, hended, hRE⟩ := X11.leaveW hS11 (by exact (Nat.le_refl _)) (v := (some (.int 1))) (fun h => by rw [Bd.returns] at h; cases h)
  refine ⟨_, _, castTop (ef0_III m p0 p1 p2) ?_, hrun, hended, _, _, rfl, ?_, hRE.1, hRE.2.1, hRE.2.2.1, hRE.2.2.2.mono (by decide) (by decide)⟩
  · show Steps p.tables e below (s₁.setTop (mkF m 0 #[.val (.int p0), .val (.int p1), .val (.int p2), .unset, .unset, .unset, .unset, .unset, .unset, .unset] [])) _
    refine st1 _ ?_
    refine XS.iloadN X1.here hx rfl (hb hby at_35) rfl ?_
    show Steps p.tables e below (T1.setTop (mkF m 36 #[.val (.int p0), .val (.int p1), .val (.int p2), .val (.ref b98), .unset, .unset, .unset, .unset, .unset, .unset] [(.int p0)])) _
    refine X1.ldcInt hx hown (mvT hZ (tw_14 hw)) (g := (mkF m 36 #[.val (.int p0), .val (.int p1), .val (.int p2), .val (.ref b98), .unset, .unset, .unset, .unset, .unset, .unset] [(.int p0)])) rfl (hb hby at_36) _ ?_
    show Steps p.tables e below (T1.setTop (mkF m 38 #[.val (.int p0), .val (.int p1), .val (.int p2), .val (.ref b98), .unset, .unset, .unset, .unset, .unset, .unset] [(.int 2147483647), (.int p0)])) _
    refine XS.iand X1.here hx rfl (hb hby at_38) rfl ?_
    refine XS.iconst X1.here hx rfl (hb hby at_39) ?_
    show Steps p.tables e below (T1.setTop (mkF m 40 #[.val (.int p0), .val (.int p1), .val (.int p2), .val (.ref b98), .unset, .unset, .unset, .unset, .unset, .unset] [(.int 5), (.int (p0 &&& (2147483647 : Int32)))])) _
    refine iremM X1 hx rfl (hb hby at_40) rfl (by decide) ?_
    show Steps p.tables e below (T1.setTop (mkF m 41 #[.val (.int p0), .val (.int p1), .val (.int p2), .val (.ref b98), .unset, .unset, .unset, .unset, .unset, .unset] [(.int ((p0 &&& (2147483647 : Int32)) % (5 : Int32)))])) _
    rw [f11]
    refine XS.istore X1.here hx rfl (hb hby at_41) rfl (l' := #[.val (.int p0), .val (.int p1), .val (.int p2), .val (.ref b98), .val (.int 3), .unset, .unset, .unset, .unset, .unset]) rfl ?_
    refine XS.iloadN X1.here hx rfl (hb hby at_43) rfl ?_
    show Steps p.tables e below (T1.setTop (mkF m 44 #[.val (.int p0), .val (.int p1), .val (.int p2), .val (.ref b98), .val (.int 3), .unset, .unset, .unset, .unset, .unset] [(.int p1)])) _
    refine X1.ldcInt hx hown (mvT hZ (tw_14 hw)) (g := (mkF m 44 #[.val (.int p0), .val (.int p1), .val (.int p2), .val (.ref b98), .val (.int 3), .unset, .unset, .unset, .unset, .unset] [(.int p1)])) rfl (hb hby at_44) _ ?_
    show Steps p.tables e below (T1.setTop (mkF m 46 #[.val (.int p0), .val (.int p1), .val (.int p2), .val (.ref b98), .val (.int 3), .unset, .unset, .unset, .unset, .unset] [(.int 2147483647), (.int p1)])) _
    refine XS.iand X1.here hx rfl (hb hby at_46) rfl ?_
    refine XS.iconst X1.here hx rfl (hb hby at_47) ?_
    show Steps p.tables e below (T1.setTop (mkF m 48 #[.val (.int p0), .val (.int p1), .val (.int p2), .val (.ref b98), .val (.int 3), .unset, .unset, .unset, .unset, .unset] [(.int 5), (.int (p1 &&& (2147483647 : Int32)))])) _
    refine iremM X1 hx rfl (hb hby at_48) rfl (by decide) ?_
    show Steps p.tables e below (T1.setTop (mkF m 49 #[.val (.int p0), .val (.int p1), .val (.int p2), .val (.ref b98), .val (.int 3), .unset, .unset, .unset, .unset, .unset] [(.int ((p1 &&& (2147483647 : Int32)) % (5 : Int32)))])) _
    rw [f12]
    refine XS.istore X1.here hx rfl (hb hby at_49) rfl (l' := #[.val (.int p0), .val (.int p1), .val (.int p2), .val (.ref b98), .val (.int 3), .val (.int 3), .unset, .unset, .unset, .unset]) rfl ?_
    refine XS.iloadN X1.here hx rfl (hb hby at_51) rfl ?_
    refine XS.iconst X1.here hx rfl (hb hby at_52) ?_
    show Steps p.tables e below (T1.setTop (mkF m 53 #[.val (.int p0), .val (.int p1), .val (.int p2), .val (.ref b98), .val (.int 3), .val (.int 3), .unset, .unset, .unset, .unset] [(.int 1), (.int p2)])) _
    refine XS.iand X1.here hx rfl (hb hby at_53) rfl ?_
    refine XS.ifYes X1.here hx rfl (pc0 := 54) (pc' := 63) rfl (hb hby at_54) rfl ((if0 _ _).trans (teq (f13 : (p2 &&& (1 : Int32)) = (0 : Int32))).1) (by decide) (by decide) ?_
    show Steps p.tables e below (T1.setTop (mkF m 63 #[.val (.int p0), .val (.int p1), .val (.int p2), .val (.ref b98), .val (.int 3), .val (.int 3), .unset, .unset, .unset, .unset] [])) _
    refine st3 _ ?_
    refine XS.astore X3.here hx rfl (hb hby at_66) rfl rfl (l' := #[.val (.int p0), .val (.int p1), .val (.int p2), .val (.ref b98), .val (.int 3), .val (.int 3), .val (.ref a_CONSUMER), .unset, .unset, .unset]) rfl ?_
    refine XS.aloadN X3.here hx rfl (hb hby at_68) rfl rfl ?_
    refine XS.iload X3.here hx rfl (hb hby at_69) rfl ?_
    show Steps p.tables e below (T3.setTop (mkF m 71 #[.val (.int p0), .val (.int p1), .val (.int p2), .val (.ref b98), .val (.int 3), .val (.int 3), .val (.ref a_CONSUMER), .unset, .unset, .unset] [(.int 3), (.ref b98)])) _
    refine X3.aaload hx (j := (3 : Int32)) (v := (.ref a_COMPLETED)) (by rw [e3]; exact Ar4.1) (State.isArrayOf_alike hZ.alike Ar4.2.1) rfl Ar4.2.2 hin4 hat4 (g := (mkF m 71 #[.val (.int p0), .val (.int p1), .val (.int p2), .val (.ref b98), .val (.int 3), .val (.int 3), .val (.ref a_CONSUMER), .unset, .unset, .unset] [(.int 3), (.ref b98)])) rfl rfl (hb hby at_71) _ ?_
    refine XS.astore X3.here hx rfl (hb hby at_72) rfl rfl (l' := #[.val (.int p0), .val (.int p1), .val (.int p2), .val (.ref b98), .val (.int 3), .val (.int 3), .val (.ref a_CONSUMER), .val (.ref a_COMPLETED), .unset, .unset]) rfl ?_
    refine XS.aload X3.here hx rfl (hb hby at_74) rfl rfl ?_
    show Steps p.tables e below (T3.setTop (mkF m 76 #[.val (.int p0), .val (.int p1), .val (.int p2), .val (.ref b98), .val (.int 3), .val (.int 3), .val (.ref a_CONSUMER), .val (.ref a_COMPLETED), .unset, .unset] [(.ref a_COMPLETED)])) _
    refine st6.trans ?_
    refine XS.istore X6.here hx rfl (hb hby at_79) rfl (l' := #[.val (.int p0), .val (.int p1), .val (.int p2), .val (.ref b98), .val (.int 3), .val (.int 3), .val (.ref a_CONSUMER), .val (.ref a_COMPLETED), .val (.int 1), .unset]) rfl ?_
    refine XS.iload X6.here hx rfl (hb hby at_81) rfl ?_
    refine XS.iconst X6.here hx rfl (hb hby at_83) ?_
    refine XS.icmpNo X6.here hx rfl (hb hby at_84) rfl (by decide) ?_
    show Steps p.tables e below (T6.setTop (mkF m 87 #[.val (.int p0), .val (.int p1), .val (.int p2), .val (.ref b98), .val (.int 3), .val (.int 3), .val (.ref a_CONSUMER), .val (.ref a_COMPLETED), .val (.int 1), .unset] [])) _
    refine XS.iconst X6.here hx rfl (hb hby at_87) ?_
    refine XS.goto X6.here hx rfl (pc0 := 88) (pc' := 92) rfl (hb hby at_88) (by decide) (by decide) ?_
    refine XS.istore X6.here hx rfl (hb hby at_92) rfl (l' := #[.val (.int p0), .val (.int p1), .val (.int p2), .val (.ref b98), .val (.int 3), .val (.int 3), .val (.ref a_CONSUMER), .val (.ref a_COMPLETED), .val (.int 1), .val (.int 1)]) rfl ?_
    refine XS.iload X6.here hx rfl (hb hby at_94) rfl ?_
    refine XS.iload X6.here hx rfl (hb hby at_96) rfl ?_
    show Steps p.tables e below (T6.setTop (mkF m 98 #[.val (.int p0), .val (.int p1), .val (.int p2), .val (.ref b98), .val (.int 3), .val (.int 3), .val (.ref a_CONSUMER), .val (.ref a_COMPLETED), .val (.int 1), .val (.int 1)] [(.int 1), (.int 1)])) _
    refine XS.icmpYes X6.here hx rfl (pc0 := 98) (pc' := 103) rfl (hb hby at_98) rfl (by decide) (by decide) (by decide) ?_
    refine XS.iload X6.here hx rfl (hb hby at_103) rfl ?_
    refine XS.ifNo X6.here hx rfl (hb hby at_105) rfl (by decide) ?_
    refine XS.aload X6.here hx rfl (hb hby at_108) rfl rfl ?_
    refine XS.aloadN X6.here hx rfl (hb hby at_110) rfl rfl ?_
    show Steps p.tables e below (T6.setTop (mkF m 111 #[.val (.int p0), .val (.int p1), .val (.int p2), .val (.ref b98), .val (.int 3), .val (.int 3), .val (.ref a_CONSUMER), .val (.ref a_COMPLETED), .val (.int 1), .val (.int 1)] [(.ref b98), (.ref a_COMPLETED)])) _
    refine XS.iload X6.here hx rfl (hb hby at_111) rfl ?_
    show Steps p.tables e below (T6.setTop (mkF m 113 #[.val (.int p0), .val (.int p1), .val (.int p2), .val (.ref b98), .val (.int 3), .val (.int 3), .val (.ref a_CONSUMER), .val (.ref a_COMPLETED), .val (.int 1), .val (.int 1)] [(.int 3), (.ref b98), (.ref a_COMPLETED)])) _
    refine X6.aaload hx (j := (3 : Int32)) (v := (.ref a_COMPLETED)) (by rw [e6]; exact Ar8.1) (State.isArrayOf_alike hZ.alike Ar8.2.1) rfl Ar8.2.2 hin8 hat8 (g := (mkF m 113 #[.val (.int p0), .val (.int p1), .val (.int p2), .val (.ref b98), .val (.int 3), .val (.int 3), .val (.ref a_CONSUMER), .val (.ref a_COMPLETED), .val (.int 1), .val (.int 1)] [(.int 3), (.ref b98), (.ref a_COMPLETED)])) rfl rfl (hb hby at_113) _ ?_
    refine XS.aload X6.here hx rfl (hb hby at_114) rfl rfl ?_
    show Steps p.tables e below (T6.setTop (mkF m 116 #[.val (.int p0), .val (.int p1), .val (.int p2), .val (.ref b98), .val (.int 3), .val (.int 3), .val (.ref a_CONSUMER), .val (.ref a_COMPLETED), .val (.int 1), .val (.int 1)] [(.ref a_CONSUMER), (.ref a_COMPLETED), (.ref a_COMPLETED)])) _
    refine st11.trans ?_
    refine XS.ifYes X11.here hx rfl (pc0 := 119) (pc' := 124) rfl (hb hby at_119) rfl (by decide) (by decide) (by decide) ?_
    refine XS.iconst X11.here hx rfl (hb hby at_124) ?_
    show Steps p.tables e below (T11.setTop (mkF m 125 #[.val (.int p0), .val (.int p1), .val (.int p2), .val (.ref b98), .val (.int 3), .val (.int 3), .val (.ref a_CONSUMER), .val (.ref a_COMPLETED), .val (.int 1), .val (.int 1)] [(.int 1)])) _
    exact retN X11 hx (t := .boolean) Bd.returns (by simp) (hb hby at_125) hr
  · show QT n0 _ T11.heap _
    exact ⟨rfl, N11⟩
def Q2_112 (Z : State)  (h0 : Heap) (n0 : Nat) (v : Option Value) (h : Heap) (L : List Loc) : Prop := v = (some (.int 0)) ∧ Fr n0 L ∧ Keep h0 h []
set_option maxRecDepth 65536 in
set_option maxHeartbeats 40000000 in
theorem rm2_111 (l : Launch) (Z : State) (a0 : Array Value) (hw : ∀ d ∈ tables_1, d.before a0 Z = true) (ws : List Jvm.Cond) (a_COMPLETED : Addr) (a_PROVIDER : Addr) (a_STARTED : Addr) (h0 : Heap) (n0 : Nat) (Z0 : n0 ≤ h0.size) (f1 : F_0 Z h0 a_COMPLETED (.int 3)) (f2 : E_0 Z h0 a_COMPLETED) (f3 : S_1 Z h0 (.ref a_STARTED)) (f4 : a_COMPLETED ≠ a_STARTED) :
    MetFree l M_4 (head1 (Jvm.Cond.code M_4 prog_6_method_5_code 3 (some .boolean) :: ws) R_1_4_32_13) (fun a U => a = #[(.ref a_COMPLETED), (.ref a_COMPLETED), (.ref a_PROVIDER)] ∧ Z.Warmed39 U.vm ∧ U.heap = h0) (fun _ _ _ _ _ => True) (fun _ U o U' => ∃ v L, o = .returned v ∧ Q2_112 Z  h0 n0 v U'.heap L ∧ ReturnedEndW U o U' L R_1_4_32_13.cells R_1_4_32_13.slots) := by
  refine MetFree.of_bodySF (plainFor_of_name pn_com_example_offer_offer_model_TransferState) hisR ?_
  intro p e s m args below meth c s₁ Bd hml0 hP hK
  obtain ⟨rfl, hZ, hh⟩ := hP
  have hx := Bd.exec
  have hby := Bd.bytes
  have hml : c.maxLocals = 3 := hml0
  have hown : s.vm.findClass "com/example/offer/offer/model/TransferState" = some m.cls := findClass_of_methodNamed Bd.named
  have hnm := (name_of_methodNamed Bd.named Bd.method).1
  have X0 : Stand p l e R_1_4_32_13 s m #[(.ref a_COMPLETED), (.ref a_COMPLETED), (.ref a_PROVIDER)] below meth c s₁ [] 0 0 := Stand.of_body Bd
  have e0 : s₁.heap = h0 := by rw [← hh, Bd.state]; rfl
  have N0 := Fr.nil n0
  obtain ⟨ax109, T1, h1, kz1, X1, e1, E1, hS1, hk1, hZ1, hown1, st1⟩ := ldcS (s := s) (vm0 := s.vm) X0 hx hZ hown (tw_32 hw) (own_strs hw) e0 ((State.WarmedH.refl s).since 0) (Nat.zero_le _) (g := (mkF m 1 #[.val (.ref a_COMPLETED), .val (.ref a_COMPLETED), .val (.ref a_PROVIDER)] [(.ref a_COMPLETED)])) rfl (hb hby d2_1) (n := 16) (by decide) (by decide) (by decide) (by decide)
  have KK1 : Keep h0 h1 [] := (Keep.refl h0 []).ext E1
  -- pc 3: java/util/Objects.requireNonNull
  obtain ⟨_, _, ⟨T2, L2, k2, n2⟩, -, X2, ⟨Lc2, hQ2, l2, y2, z2⟩, st2⟩ := Jvm.LawKit.callS X1 hx (y := M_1) hown1 (mvT hZ1 (tw_40 hw)) (mvT hZ1 (tw_41 hw)) (mvT hZ1 (tw_42 hw)) (mvT hZ1 (tw_43 hw)) (by decide) (backOf (W := 0) (rm3_101 l Z a0 hw [] a_COMPLETED ax109 h1 n0 (Nat.le_trans Z0 KK1.1) ) hZ1 (tw_43 hw) (tw_42 hw) (by decide) (by decide)) (g := (mkF m 3 #[.val (.ref a_COMPLETED), .val (.ref a_COMPLETED), .val (.ref a_PROVIDER)] [(.ref ax109), (.ref a_COMPLETED)])) rfl (by rw [hml]; rfl) (argsL := [(.ref a_COMPLETED), (.ref ax109)]) (rest := []) (lenOf pd_1 rfl) rfl (by show 2 * 0 + _ ≤ _; exact Nat.le_of_eq rfl) (hb hby d2_3) (fun _ _ => ⟨rfl, e1, (by decide : 2 + 0 ≤ _), (by decide : 20 + 0 ≤ _)⟩)
  dsimp only [Pt.U, Pt.locs, Pt.cells, Pt.slots] at X2 l2 y2 z2 st2 hQ2
  subst l2 y2 z2
  obtain ⟨rfl, Nq2, e2⟩ := hQ2
  have N2 := Fr.app N0 Nq2
  obtain ⟨ax110, T3, h3, kz3, X3, e3, E3, hS3, hk3, hZ3, hown3, st3⟩ := ldcS (s := s) (vm0 := T1.vm) X2 hx hZ1 hown1 (tw_44 hw) (own_strs hw) e2 hS1 hk1 (g := (mkF m 8 #[.val (.ref a_COMPLETED), .val (.ref a_COMPLETED), .val (.ref a_PROVIDER)] [(.ref a_PROVIDER)])) rfl (hb hby d2_8) (n := 8) (by decide) (by decide) (by decide) (by decide)
  have KK3 : Keep h0 h3 [] := KK1.ext E3
  -- pc 10: java/util/Objects.requireNonNull
  obtain ⟨_, _, ⟨T4, L4, k4, n4⟩, -, X4, ⟨Lc4, hQ4, l4, y4, z4⟩, st4⟩ := Jvm.LawKit.callS X3 hx (y := M_1) hown3 (mvT hZ3 (tw_40 hw)) (mvT hZ3 (tw_41 hw)) (mvT hZ3 (tw_42 hw)) (mvT hZ3 (tw_43 hw)) (by decide) (backOf (W := 0) (rm3_62 l Z a0 hw [] a_PROVIDER ax110 h3 n0 (Nat.le_trans Z0 KK3.1) ) hZ3 (tw_43 hw) (tw_42 hw) (by decide) (by decide)) (g := (mkF m 10 #[.val (.ref a_COMPLETED), .val (.ref a_COMPLETED), .val (.ref a_PROVIDER)] [(.ref ax110), (.ref a_PROVIDER)])) rfl (by rw [hml]; rfl) (argsL := [(.ref a_PROVIDER), (.ref ax110)]) (rest := []) (lenOf pd_1 rfl) rfl (by show 2 * 0 + _ ≤ _; exact Nat.le_of_eq rfl) (hb hby d2_10) (fun _ _ => ⟨rfl, e3, (by decide : 4 + 0 ≤ _), (by decide : 32 + 0 ≤ _)⟩)
  dsimp only [Pt.U, Pt.locs, Pt.cells, Pt.slots] at X4 l4 y4 z4 st4 hQ4
  subst l4 y4 z4
  obtain ⟨rfl, Nq4, e4⟩ := hQ4
  have N4 := Fr.app N2 Nq4
  -- pc 15: java/lang/Enum.ordinal
  have u5 : F_0 Z h1 a_COMPLETED (.int 3) := Fld.ext E1 f1
  have u6 : F_0 Z h3 a_COMPLETED (.int 3) := Fld.ext E3 u5
  have u8 : E_0 Z h1 a_COMPLETED := Exa.ext E1 f2
  have u9 : E_0 Z h3 a_COMPLETED := Exa.ext E3 u8
  obtain ⟨cq7, kq7, q7a, q7b, q7c⟩ := isOf hZ3 e4 u9
  obtain ⟨_, _, ⟨T7, L7, k7, n7⟩, -, X7, ⟨Lc7, hQ7, l7, y7, z7⟩, st7⟩ := X4.virtualBackUp hx (x := M_3) (y := M_2) (owner := "java/lang/Enum") hown3 (mvT hZ3 (tw_45 hw)) (mvT hZ3 (tw_46 hw)) (mvT hZ3 (tw_47 hw)) (by decide) (mvT hZ3 (tw_49 hw)) (mvT hZ3 (tw_48 hw)) (backOf (W := 0) (rm4_103 l Z a0 hw [] a_COMPLETED h3 n0 (Nat.le_trans Z0 KK3.1) u6) hZ3 (tw_51 hw) (tw_50 hw) (by decide) (by decide)) q7a q7c (g := (mkF m 15 #[.val (.ref a_COMPLETED), .val (.ref a_COMPLETED), .val (.ref a_PROVIDER)] [(.ref a_COMPLETED)])) rfl (by rw [hml]; rfl) (Steps.refl _) (argsL := []) (rest := []) (lenOf pd_2 rfl) rfl (by show 2 * 0 + _ ≤ _; exact Nat.le_of_eq rfl) (hb hby d2_15) (fun _ _ => ⟨rfl, e4, (by decide : 4 + 0 ≤ _), (by decide : 32 + 0 ≤ _)⟩)
  dsimp only [Pt.U, Pt.locs, Pt.cells, Pt.slots] at X7 l7 y7 z7 st7 hQ7
  subst l7 y7 z7
  obtain ⟨rfl, Nq7, e7⟩ := hQ7
  have N7 := Fr.app N4 Nq7
  have u10 : S_1 Z h1 (.ref a_STARTED) := Sta.ext E1 f3
  have u11 : S_1 Z h3 (.ref a_STARTED) := Sta.ext E3 u10
  obtain ⟨T12, X12, e12, st12⟩ := getS2 X7 hx hZ3 hown3 (host := "") (Or.inl (tw_57 hw)) Via.refl e7 u11 (g := (mkF m 96 #[.val (.ref a_COMPLETED), .val (.ref a_COMPLETED), .val (.ref a_PROVIDER)] [(.ref a_COMPLETED)])) rfl (hb hby d2_96)
  obtain ⟨fs, hr, hrun, hended, hRE⟩ := X12.leaveW hS3 (by rw [e12]; exact hk3) (v := (some (.int 0))) (fun h => by rw [Bd.returns] at h; cases h)
  refine ⟨_, _, castTop (ef2_RRR m a_COMPLETED a_COMPLETED a_PROVIDER) ?_, hrun, hended, _, _, rfl, ?_, hRE.1, hRE.2.1, hRE.2.2.1, hRE.2.2.2.mono (by decide) (by decide)⟩
  · show Steps p.tables e below (s₁.setTop (mkF m 0 #[.val (.ref a_COMPLETED), .val (.ref a_COMPLETED), .val (.ref a_PROVIDER)] [])) _
    refine XS.aloadN X0.here hx rfl (hb hby d2_0) rfl rfl ?_
    show Steps p.tables e below (s₁.setTop (mkF m 1 #[.val (.ref a_COMPLETED), .val (.ref a_COMPLETED), .val (.ref a_PROVIDER)] [(.ref a_COMPLETED)])) _
    refine st1 _ ?_
    show Steps p.tables e below (T1.setTop (mkF m 3 #[.val (.ref a_COMPLETED), .val (.ref a_COMPLETED), .val (.ref a_PROVIDER)] [(.ref ax109), (.ref a_COMPLETED)])) _
    refine st2 _ ?_
    refine XS.pop X2.here hx rfl (hb hby d2_6) rfl rfl ?_
    refine XS.aloadN X2.here hx rfl (hb hby d2_7) rfl rfl ?_
    show Steps p.tables e below (T2.setTop (mkF m 8 #[.val (.ref a_COMPLETED), .val (.ref a_COMPLETED), .val (.ref a_PROVIDER)] [(.ref a_PROVIDER)])) _
    refine st3 _ ?_
    show Steps p.tables e below (T3.setTop (mkF m 10 #[.val (.ref a_COMPLETED), .val (.ref a_COMPLETED), .val (.ref a_PROVIDER)] [(.ref ax110), (.ref a_PROVIDER)])) _
    refine st4 _ ?_
    refine XS.pop X4.here hx rfl (hb hby d2_13) rfl rfl ?_
    refine XS.aloadN X4.here hx rfl (hb hby d2_14) rfl rfl ?_
    show Steps p.tables e below (T4.setTop (mkF m 15 #[.val (.ref a_COMPLETED), .val (.ref a_COMPLETED), .val (.ref a_PROVIDER)] [(.ref a_COMPLETED)])) _
    refine st7.trans ?_
    show Steps p.tables e below (T7.setTop (mkF m 18 #[.val (.ref a_COMPLETED), .val (.ref a_COMPLETED), .val (.ref a_PROVIDER)] [(.int 3)])) _
    refine XS.tswIn X7.here hx rfl (pc0 := 18) (pc' := 95) (o := 77) rfl (hb hby d2_18) rfl (by decide) (by decide) (by decide) (by decide) ?_
    refine XS.aloadN X7.here hx rfl (hb hby d2_95) rfl rfl ?_
    show Steps p.tables e below (T7.setTop (mkF m 96 #[.val (.ref a_COMPLETED), .val (.ref a_COMPLETED), .val (.ref a_PROVIDER)] [(.ref a_COMPLETED)])) _
    refine st12 _ ?_
    show Steps p.tables e below (T12.setTop (mkF m 99 #[.val (.ref a_COMPLETED), .val (.ref a_COMPLETED), .val (.ref a_PROVIDER)] [(.ref a_STARTED), (.ref a_COMPLETED)])) _
    refine Jvm.RoadKit.acmp (g := (mkF m 99 #[.val (.ref a_COMPLETED), .val (.ref a_COMPLETED), .val (.ref a_PROVIDER)] [(.ref a_STARTED), (.ref a_COMPLETED)])) X12 hx rfl rfl rfl (pc0 := 99) (pc' := 106) (same := false) rfl (hb hby d2_99) rfl (decide_eq_false fun q => f4 (Value.ref.inj q)) (by decide) (by decide) ?_
    refine XS.iconst X12.here hx rfl (hb hby d2_106) ?_
    refine XS.goto X12.here hx rfl (pc0 := 107) (pc' := 122) rfl (hb hby d2_107) (by decide) (by decide) ?_
    show Steps p.tables e below (T12.setTop (mkF m 122 #[.val (.ref a_COMPLETED), .val (.ref a_COMPLETED), .val (.ref a_PROVIDER)] [(.int 0)])) _
    exact retN X12 hx (t := .boolean) Bd.returns (by simp) (hb hby d2_122) hr
  · show Q2_112 Z  h0 n0 _ T12.heap _
    rw [e12]
    exact ⟨rfl, N7, KK3⟩
set_option maxRecDepth 65536 in
set_option maxHeartbeats 40000000 in
theorem rm0_113 (l : Launch) (Z : State) (a0 : Array Value) (hw : ∀ d ∈ tables_1, d.before a0 Z = true) (ws : List Jvm.Cond) (p0 : Int32) (p1 : Int32) (p2 : Int32) (a_REQUESTED : Addr) (a_STARTED : Addr) (a_SUSPENDED : Addr) (a_COMPLETED : Addr) (a_TERMINATED : Addr) (a_PROVIDER : Addr) (h0 : Heap) (n0 : Nat) (Z0 : n0 ≤ h0.size) (f1 : S_0 Z h0 (.ref a_REQUESTED)) (f2 : E_0 Z h0 a_REQUESTED) (f3 : S_1 Z h0 (.ref a_STARTED)) (f4 : E_0 Z h0 a_STARTED) (f5 : S_2 Z h0 (.ref a_SUSPENDED)) (f6 : E_0 Z h0 a_SUSPENDED) (f7 : S_3 Z h0 (.ref a_COMPLETED)) (f8 : E_0 Z h0 a_COMPLETED) (f9 : S_4 Z h0 (.ref a_TERMINATED)) (f10 : E_0 Z h0 a_TERMINATED) (f11 : ((p0 &&& (2147483647 : Int32)) % (5 : Int32)) = (3 : Int32)) (f12 : ((p1 &&& (2147483647 : Int32)) % (5 : Int32)) = (3 : Int32)) (f13 : ¬ ((p2 &&& (1 : Int32)) = (0 : Int32))) (f14 : S_6 Z h0 (.ref a_PROVIDER)) (f15 : F_0 Z h0 a_COMPLETED (.int 3)) (f16 : a_COMPLETED ≠ a_STARTED) :
    MetFree l x (head1 (Jvm.Cond.code x code maxLocals ret :: ws) room_1) (fun a U => a = #[(.int p0), (.int p1), (.int p2)] ∧ Z.Warmed39 U.vm ∧ U.heap = h0) (fun _ _ _ _ _ => True) (fun _ U o U' => ∃ v L, o = .returned v ∧ QT n0 v U'.heap L ∧ ReturnedEndW U o U' L room_1.cells room_1.slots) := by
  refine MetFree.of_bodySF (plainFor_of_name pn_com_example_offer_offer_model_TransferStateIsFinalPinLaw) hisR ?_
  intro p e s m args below meth c s₁ Bd hml0 hP hK
  obtain ⟨rfl, hZ, hh⟩ := hP
  have hx := Bd.exec
  have hby := Bd.bytes
  have hml : c.maxLocals = 10 := hml0
  have hown : s.vm.findClass "com/example/offer/offer/model/TransferStateIsFinalPinLaw" = some m.cls := findClass_of_methodNamed Bd.named
  have hnm := (name_of_methodNamed Bd.named Bd.method).1
  have X0 : Stand p l e room_1 s m #[(.int p0), (.int p1), (.int p2)] below meth c s₁ [] 0 0 := Stand.of_body Bd
  have e0 : s₁.heap = h0 := by rw [← hh, Bd.state]; rfl
  have N0 := Fr.nil n0
  obtain ⟨T1, h1, L1, b107, kc108, X1, e1, N1, K1, le_b107, o1_0, o1_1, st1⟩ := sg0_25 p0 p1 p2 a_REQUESTED a_STARTED a_SUSPENDED a_COMPLETED a_TERMINATED X0 hx hZ hw hby hml hown e0 N0 Z0 f1 f2 f3 f4 f5 f6 f7 f8 f9 f10
  have sz_b107 : h0.size ≤ b107 := Nat.le_trans (Nat.le_refl _) le_b107
  have g_b107 : n0 ≤ b107 := Nat.le_trans Z0 sz_b107
  have KK1 : Keep h0 h1 [] := (Keep.refl h0 []).trans K1 (fun x hx => nomatch hx)
  have u2 : S_6 Z h1 (.ref a_PROVIDER) := own_sta_keep f14 K1 (fun _ q => nomatch q)
  obtain ⟨T3, X3, e3, st3⟩ := getS2 X1 hx hZ hown (host := "") (Or.inl (tw_25 hw)) Via.refl e1 u2 (g := (mkF m 57 #[.val (.int p0), .val (.int p1), .val (.int p2), .val (.ref b107), .val (.int 3), .val (.int 3), .unset, .unset, .unset, .unset] [])) rfl (hb hby at_57)
  have va4 := o1_0
  obtain ⟨cl4, Ar4, -, S4, -, H4, -⟩ := va4
  have hin4 : ¬ ((3 : Int32) < 0 ∨ cl4.slots.size ≤ ((3 : Int32)).toNatClampNeg) := inb_of S4 ⟨by decide, by decide⟩
  have hat4 : cl4.slots[((3 : Int32)).toNatClampNeg]? = some (.ref a_COMPLETED) := H4 _ (Nat.lt_of_not_le fun y => hin4 (Or.inr y))
  -- pc 76: com/example/offer/offer/model/TransferState.isFinal
  have u5 : S_3 Z h1 (.ref a_COMPLETED) := own_sta_keep f7 K1 (fun _ q => nomatch q)
  have u7 : E_0 Z h1 a_COMPLETED := Exa.keep f8 K1
  obtain ⟨cq6, kq6, q6a, q6b, q6c⟩ := isOf hZ e3 u7
  obtain ⟨_, _, ⟨T6, L6, k6, n6⟩, -, X6, ⟨Lc6, hQ6, l6, y6, z6⟩, st6⟩ := X3.virtualBack hx (y := M_0) (z := M_0) hown (mvT hZ (tw_18 hw)) (mvT hZ (tw_19 hw)) (notFace_of_selects (args := #[]) (mvT hZ (tw_21 hw))) (mvT hZ (tw_21 hw)) (mvT hZ (tw_20 hw)) (by decide) (backOf (W := 0) (rm1_49 l Z a0 hw [] a_COMPLETED h1 n0 (Nat.le_trans Z0 KK1.1) u5) hZ (tw_22 hw) (tw_3 hw) (by decide) (by decide)) q6a q6c (g := (mkF m 76 #[.val (.int p0), .val (.int p1), .val (.int p2), .val (.ref b107), .val (.int 3), .val (.int 3), .val (.ref a_PROVIDER), .val (.ref a_COMPLETED), .unset, .unset] [(.ref a_COMPLETED)])) rfl (by rw [hml]; rfl) (Steps.refl _) (argsL := []) (rest := []) (lenOf pd_0 rfl) rfl (by show 2 * 0 + _ ≤ _; exact Nat.le_of_eq rfl) (hb hby at_76) (fun _ _ => ⟨rfl, e3, (by decide : 1 + 0 ≤ _), (by decide : 5 + 0 ≤ _)⟩)
  dsimp only [Pt.U, Pt.locs, Pt.cells, Pt.slots] at X6 l6 y6 z6 st6 hQ6
  subst l6 y6 z6
  obtain ⟨rfl, Nq6, e6⟩ := hQ6
  have N6 := Fr.app N1 Nq6
  have va8 := o1_0
  obtain ⟨cl8, Ar8, -, S8, -, H8, -⟩ := va8
  have hin8 : ¬ ((3 : Int32) < 0 ∨ cl8.slots.size ≤ ((3 : Int32)).toNatClampNeg) := inb_of S8 ⟨by decide, by decide⟩
  have hat8 : cl8.slots[((3 : Int32)).toNatClampNeg]? = some (.ref a_COMPLETED) := H8 _ (Nat.lt_of_not_le fun y => hin8 (Or.inr y))
  -- pc 116: com/example/offer/offer/model/TransferState.canMoveTo
  have u9 : F_0 Z h1 a_COMPLETED (.int 3) := Fld.keep f15 K1 List.not_mem_nil
  have u10 : S_1 Z h1 (.ref a_STARTED) := own_sta_keep f3 K1 (fun _ q => nomatch q)
  obtain ⟨cq11, kq11, q11a, q11b, q11c⟩ := isOf hZ e6 u7
  obtain ⟨_, _, ⟨T11, L11, k11, n11⟩, -, X11, hS11, hg11, ⟨Lc11, hQ11, l11, y11, z11⟩, st11⟩ := X6.virtualBackS hx (y := M_4) (z := M_4) hown (mvT hZ (tw_27 hw)) (mvT hZ (tw_28 hw)) (notFace_of_selects (args := #[]) (mvT hZ (tw_30 hw))) (mvT hZ (tw_30 hw)) (mvT hZ (tw_29 hw)) (by decide) (backOfS (W := 0) (rm2_111 l Z a0 hw [] a_COMPLETED a_PROVIDER a_STARTED h1 n0 (Nat.le_trans Z0 KK1.1) u9 u7 u10 f16) hZ (tw_31 hw) (tw_3 hw) (by decide) (by decide)) q11a q11c (g := (mkF m 116 #[.val (.int p0), .val (.int p1), .val (.int p2), .val (.ref b107), .val (.int 3), .val (.int 3), .val (.ref a_PROVIDER), .val (.ref a_COMPLETED), .val (.int 1), .val (.int 1)] [(.ref a_PROVIDER), (.ref a_COMPLETED), (.ref a_COMPLETED)])) rfl (by rw [hml]; rfl) (Steps.refl _) (argsL := [(.ref a_COMPLETED), (.ref a_PROVIDER)]) (rest := []) (lenOf pd_3 rfl) rfl (by show 2 * 0 + _ ≤ _; exact Nat.le_of_eq rfl) (hb hby at_116) (fun _ _ => ⟨rfl, e6, (by decide : 1 + 4 ≤ _), (by decide : 5 + 32 ≤ _)⟩)
  dsimp only [Pt.U, Pt.locs, Pt.cells, Pt.slots] at X11 l11 y11 z11 st11 hQ11 hS11 hg11
  subst l11 y11 z11
  have hZ11 : Z.Warmed39 (s.setVm T11.vm).vm := State.Warmed39.trans hZ hS11.1
  have hown11 : (s.setVm T11.vm).vm.findClass "com/example/offer/offer/model/TransferStateIsFinalPinLaw" = some m.cls := by rw [show (s.setVm T11.vm).vm = T11.vm from rfl, hS11.1.alike.findClass]; exact hown
  obtain ⟨rfl, Nq11, K11⟩ := hQ11
  have N11 := Fr.app N6 Nq11
  have KK11 : Keep h0 T11.heap [] := KK1.trans K11 (fun x hx => nomatch hx)
  obtain ⟨fs, hr, hrun, hended, hRE⟩ := X11.leaveW hS11 (by exact (Nat.le_refl _)) (v := (some (.int 1))) (fun h => by rw [Bd.returns] at h; cases h)
  refine ⟨_, _, castTop (ef0_III m p0 p1 p2) ?_, hrun, hended, _, _, rfl, ?_, hRE.1, hRE.2.1, hRE.2.2.1, hRE.2.2.2.mono (by decide) (by decide)⟩
  · show Steps p.tables e below (s₁.setTop (mkF m 0 #[.val (.int p0), .val (.int p1), .val (.int p2), .unset, .unset, .unset, .unset, .unset, .unset, .unset] [])) _
    refine st1 _ ?_
    refine XS.iloadN X1.here hx rfl (hb hby at_35) rfl ?_
    show Steps p.tables e below (T1.setTop (mkF m 36 #[.val (.int p0), .val (.int p1), .val (.int p2), .val (.ref b107), .unset, .unset, .unset, .unset, .unset, .unset] [(.int p0)])) _
    refine X1.ldcInt hx hown (mvT hZ (tw_14 hw)) (g := (mkF m 36 #[.val (.int p0), .val (.int p1), .val (.int p2), .val (.ref b107), .unset, .unset, .unset, .unset, .unset, .unset] [(.int p0)])) rfl (hb hby at_36) _ ?_
    show Steps p.tables e below (T1.setTop (mkF m 38 #[.val (.int p0), .val (.int p1), .val (.int p2), .val (.ref b107), .unset, .unset, .unset, .unset, .unset, .unset] [(.int 2147483647), (.int p0)])) _
    refine XS.iand X1.here hx rfl (hb hby at_38) rfl ?_
    refine XS.iconst X1.here hx rfl (hb hby at_39) ?_
    show Steps p.tables e below (T1.setTop (mkF m 40 #[.val (.int p0), .val (.int p1), .val (.int p2), .val (.ref b107), .unset, .unset, .unset, .unset, .unset, .unset] [(.int 5), (.int (p0 &&& (2147483647 : Int32)))])) _
    refine iremM X1 hx rfl (hb hby at_40) rfl (by decide) ?_
    show Steps p.tables e below (T1.setTop (mkF m 41 #[.val (.int p0), .val (.int p1), .val (.int p2), .val (.ref b107), .unset, .unset, .unset, .unset, .unset, .unset] [(.int ((p0 &&& (2147483647 : Int32)) % (5 : Int32)))])) _
    rw [f11]
    refine XS.istore X1.here hx rfl (hb hby at_41) rfl (l' := #[.val (.int p0), .val (.int p1), .val (.int p2), .val (.ref b107), .val (.int 3), .unset, .unset, .unset, .unset, .unset]) rfl ?_
    refine XS.iloadN X1.here hx rfl (hb hby at_43) rfl ?_
    show Steps p.tables e below (T1.setTop (mkF m 44 #[.val (.int p0), .val (.int p1), .val (.int p2), .val (.ref b107), .val (.int 3), .unset, .unset, .unset, .unset, .unset] [(.int p1)])) _
    refine X1.ldcInt hx hown (mvT hZ (tw_14 hw)) (g := (mkF m 44 #[.val (.int p0), .val (.int p1), .val (.int p2), .val (.ref b107), .val (.int 3), .unset, .unset, .unset, .unset, .unset] [(.int p1)])) rfl (hb hby at_44) _ ?_
    show Steps p.tables e below (T1.setTop (mkF m 46 #[.val (.int p0), .val (.int p1), .val (.int p2), .val (.ref b107), .val (.int 3), .unset, .unset, .unset, .unset, .unset] [(.int 2147483647), (.int p1)])) _
    refine XS.iand X1.here hx rfl (hb hby at_46) rfl ?_
    refine XS.iconst X1.here hx rfl (hb hby at_47) ?_
    show Steps p.tables e below (T1.setTop (mkF m 48 #[.val (.int p0), .val (.int p1), .val (.int p2), .val (.ref b107), .val (.int 3), .unset, .unset, .unset, .unset, .unset] [(.int 5), (.int (p1 &&& (2147483647 : Int32)))])) _
    refine iremM X1 hx rfl (hb hby at_48) rfl (by decide) ?_
    show Steps p.tables e below (T1.setTop (mkF m 49 #[.val (.int p0), .val (.int p1), .val (.int p2), .val (.ref b107), .val (.int 3), .unset, .unset, .unset, .unset, .unset] [(.int ((p1 &&& (2147483647 : Int32)) % (5 : Int32)))])) _
    rw [f12]
    refine XS.istore X1.here hx rfl (hb hby at_49) rfl (l' := #[.val (.int p0), .val (.int p1), .val (.int p2), .val (.ref b107), .val (.int 3), .val (.int 3), .unset, .unset, .unset, .unset]) rfl ?_
    refine XS.iloadN X1.here hx rfl (hb hby at_51) rfl ?_
    refine XS.iconst X1.here hx rfl (hb hby at_52) ?_
    show Steps p.tables e below (T1.setTop (mkF m 53 #[.val (.int p0), .val (.int p1), .val (.int p2), .val (.ref b107), .val (.int 3), .val (.int 3), .unset, .unset, .unset, .unset] [(.int 1), (.int p2)])) _
    refine XS.iand X1.here hx rfl (hb hby at_53) rfl ?_
    refine XS.ifNo X1.here hx rfl (hb hby at_54) rfl ((if0 _ _).trans (feq (f13 : ¬ ((p2 &&& (1 : Int32)) = (0 : Int32)))).1) ?_
    show Steps p.tables e below (T1.setTop (mkF m 57 #[.val (.int p0), .val (.int p1), .val (.int p2), .val (.ref b107), .val (.int 3), .val (.int 3), .unset, .unset, .unset, .unset] [])) _
    refine st3 _ ?_
    refine XS.goto X3.here hx rfl (pc0 := 60) (pc' := 66) rfl (hb hby at_60) (by decide) (by decide) ?_
    refine XS.astore X3.here hx rfl (hb hby at_66) rfl rfl (l' := #[.val (.int p0), .val (.int p1), .val (.int p2), .val (.ref b107), .val (.int 3), .val (.int 3), .val (.ref a_PROVIDER), .unset, .unset, .unset]) rfl ?_
    refine XS.aloadN X3.here hx rfl (hb hby at_68) rfl rfl ?_
    refine XS.iload X3.here hx rfl (hb hby at_69) rfl ?_
    show Steps p.tables e below (T3.setTop (mkF m 71 #[.val (.int p0), .val (.int p1), .val (.int p2), .val (.ref b107), .val (.int 3), .val (.int 3), .val (.ref a_PROVIDER), .unset, .unset, .unset] [(.int 3), (.ref b107)])) _
    refine X3.aaload hx (j := (3 : Int32)) (v := (.ref a_COMPLETED)) (by rw [e3]; exact Ar4.1) (State.isArrayOf_alike hZ.alike Ar4.2.1) rfl Ar4.2.2 hin4 hat4 (g := (mkF m 71 #[.val (.int p0), .val (.int p1), .val (.int p2), .val (.ref b107), .val (.int 3), .val (.int 3), .val (.ref a_PROVIDER), .unset, .unset, .unset] [(.int 3), (.ref b107)])) rfl rfl (hb hby at_71) _ ?_
    refine XS.astore X3.here hx rfl (hb hby at_72) rfl rfl (l' := #[.val (.int p0), .val (.int p1), .val (.int p2), .val (.ref b107), .val (.int 3), .val (.int 3), .val (.ref a_PROVIDER), .val (.ref a_COMPLETED), .unset, .unset]) rfl ?_
    refine XS.aload X3.here hx rfl (hb hby at_74) rfl rfl ?_
    show Steps p.tables e below (T3.setTop (mkF m 76 #[.val (.int p0), .val (.int p1), .val (.int p2), .val (.ref b107), .val (.int 3), .val (.int 3), .val (.ref a_PROVIDER), .val (.ref a_COMPLETED), .unset, .unset] [(.ref a_COMPLETED)])) _
    refine st6.trans ?_
    refine XS.istore X6.here hx rfl (hb hby at_79) rfl (l' := #[.val (.int p0), .val (.int p1), .val (.int p2), .val (.ref b107), .val (.int 3), .val (.int 3), .val (.ref a_PROVIDER), .val (.ref a_COMPLETED), .val (.int 1), .unset]) rfl ?_
    refine XS.iload X6.here hx rfl (hb hby at_81) rfl ?_
    refine XS.iconst X6.here hx rfl (hb hby at_83) ?_
    refine XS.icmpNo X6.here hx rfl (hb hby at_84) rfl (by decide) ?_
    show Steps p.tables e below (T6.setTop (mkF m 87 #[.val (.int p0), .val (.int p1), .val (.int p2), .val (.ref b107), .val (.int 3), .val (.int 3), .val (.ref a_PROVIDER), .val (.ref a_COMPLETED), .val (.int 1), .unset] [])) _
    refine XS.iconst X6.here hx rfl (hb hby at_87) ?_
    refine XS.goto X6.here hx rfl (pc0 := 88) (pc' := 92) rfl (hb hby at_88) (by decide) (by decide) ?_
    refine XS.istore X6.here hx rfl (hb hby at_92) rfl (l' := #[.val (.int p0), .val (.int p1), .val (.int p2), .val (.ref b107), .val (.int 3), .val (.int 3), .val (.ref a_PROVIDER), .val (.ref a_COMPLETED), .val (.int 1), .val (.int 1)]) rfl ?_
    refine XS.iload X6.here hx rfl (hb hby at_94) rfl ?_
    refine XS.iload X6.here hx rfl (hb hby at_96) rfl ?_
    show Steps p.tables e below (T6.setTop (mkF m 98 #[.val (.int p0), .val (.int p1), .val (.int p2), .val (.ref b107), .val (.int 3), .val (.int 3), .val (.ref a_PROVIDER), .val (.ref a_COMPLETED), .val (.int 1), .val (.int 1)] [(.int 1), (.int 1)])) _
    refine XS.icmpYes X6.here hx rfl (pc0 := 98) (pc' := 103) rfl (hb hby at_98) rfl (by decide) (by decide) (by decide) ?_
    refine XS.iload X6.here hx rfl (hb hby at_103) rfl ?_
    refine XS.ifNo X6.here hx rfl (hb hby at_105) rfl (by decide) ?_
    refine XS.aload X6.here hx rfl (hb hby at_108) rfl rfl ?_
    refine XS.aloadN X6.here hx rfl (hb hby at_110) rfl rfl ?_
    show Steps p.tables e below (T6.setTop (mkF m 111 #[.val (.int p0), .val (.int p1), .val (.int p2), .val (.ref b107), .val (.int 3), .val (.int 3), .val (.ref a_PROVIDER), .val (.ref a_COMPLETED), .val (.int 1), .val (.int 1)] [(.ref b107), (.ref a_COMPLETED)])) _
    refine XS.iload X6.here hx rfl (hb hby at_111) rfl ?_
    show Steps p.tables e below (T6.setTop (mkF m 113 #[.val (.int p0), .val (.int p1), .val (.int p2), .val (.ref b107), .val (.int 3), .val (.int 3), .val (.ref a_PROVIDER), .val (.ref a_COMPLETED), .val (.int 1), .val (.int 1)] [(.int 3), (.ref b107), (.ref a_COMPLETED)])) _
    refine X6.aaload hx (j := (3 : Int32)) (v := (.ref a_COMPLETED)) (by rw [e6]; exact Ar8.1) (State.isArrayOf_alike hZ.alike Ar8.2.1) rfl Ar8.2.2 hin8 hat8 (g := (mkF m 113 #[.val (.int p0), .val (.int p1), .val (.int p2), .val (.ref b107), .val (.int 3), .val (.int 3), .val (.ref a_PROVIDER), .val (.ref a_COMPLETED), .val (.int 1), .val (.int 1)] [(.int 3), (.ref b107), (.ref a_COMPLETED)])) rfl rfl (hb hby at_113) _ ?_
    refine XS.aload X6.here hx rfl (hb hby at_114) rfl rfl ?_
    show Steps p.tables e below (T6.setTop (mkF m 116 #[.val (.int p0), .val (.int p1), .val (.int p2), .val (.ref b107), .val (.int 3), .val (.int 3), .val (.ref a_PROVIDER), .val (.ref a_COMPLETED), .val (.int 1), .val (.int 1)] [(.ref a_PROVIDER), (.ref a_COMPLETED), (.ref a_COMPLETED)])) _
    refine st11.trans ?_
    refine XS.ifYes X11.here hx rfl (pc0 := 119) (pc' := 124) rfl (hb hby at_119) rfl (by decide) (by decide) (by decide) ?_
    refine XS.iconst X11.here hx rfl (hb hby at_124) ?_
    show Steps p.tables e below (T11.setTop (mkF m 125 #[.val (.int p0), .val (.int p1), .val (.int p2), .val (.ref b107), .val (.int 3), .val (.int 3), .val (.ref a_PROVIDER), .val (.ref a_COMPLETED), .val (.int 1), .val (.int 1)] [(.int 1)])) _
    exact retN X11 hx (t := .boolean) Bd.returns (by simp) (hb hby at_125) hr
  · show QT n0 _ T11.heap _
    exact ⟨rfl, N11⟩
set_option maxRecDepth 65536 in
set_option maxHeartbeats 40000000 in
theorem rm3_117 (l : Launch) (Z : State) (a0 : Array Value) (hw : ∀ d ∈ tables_1, d.before a0 Z = true) (ws : List Jvm.Cond) (a_TERMINATED : Addr) (c0_a : Addr) (h0 : Heap) (n0 : Nat) (Z0 : n0 ≤ h0.size) :
    MetFree l M_1 (head1 (Jvm.Cond.code M_1 jdk_31_method_11_code 2 (some (.object "java/lang/Object")) :: ws) R_0_0_0_0) (fun a U => a = #[(.ref a_TERMINATED), (.ref c0_a)] ∧ Z.Warmed39 U.vm ∧ U.heap = h0) (fun _ _ _ _ _ => True) (fun _ U o U' => ∃ v L, o = .returned v ∧ QP (some (.ref a_TERMINATED)) h0 n0 v U'.heap L ∧ FrameEnd U o U' L R_0_0_0_0.cells R_0_0_0_0.slots) := by
  refine MetFree.of_bodySF (plainFor_of_name pn_java_util_Objects) hisR ?_
  intro p e s m args below meth c s₁ Bd hml0 hP hK
  obtain ⟨rfl, hZ, hh⟩ := hP
  have hx := Bd.exec
  have hby := Bd.bytes
  have hml : c.maxLocals = 2 := hml0
  have hown : s.vm.findClass "java/util/Objects" = some m.cls := findClass_of_methodNamed Bd.named
  have hnm := (name_of_methodNamed Bd.named Bd.method).1
  have X0 : Stand p l e R_0_0_0_0 s m #[(.ref a_TERMINATED), (.ref c0_a)] below meth c s₁ [] 0 0 := Stand.of_body Bd
  have e0 : s₁.heap = h0 := by rw [← hh, Bd.state]; rfl
  have N0 := Fr.nil n0
  obtain ⟨fs, hr, hrun, hended, hW, hsame⟩ := X0.leave (v := (some (.ref a_TERMINATED))) (fun h => by rw [Bd.returns] at h; cases h)
  refine ⟨_, _, castTop (ef3_RR m a_TERMINATED c0_a) ?_, hrun, hended, _, _, rfl, ?_, ⟨_, rfl⟩, hW, hsame.mono (by decide) (by decide)⟩
  · show Steps p.tables e below (s₁.setTop (mkF m 0 #[.val (.ref a_TERMINATED), .val (.ref c0_a)] [])) _
    refine XS.aloadN X0.here hx rfl (hb hby d3_0) rfl rfl ?_
    refine XS.ifnonnullYes X0.here hx rfl (pc0 := 1) (pc' := 13) rfl (hb hby d3_1) rfl (by decide) (by decide) ?_
    refine XS.aloadN X0.here hx rfl (hb hby d3_13) rfl rfl ?_
    show Steps p.tables e below (s₁.setTop (mkF m 14 #[.val (.ref a_TERMINATED), .val (.ref c0_a)] [(.ref a_TERMINATED)])) _
    jvm_step X0.here [X0.here.top, hx, (hb hby d3_14), X0.method', Bd.returns, Value.isRef, FieldType.isReference]
    first | (intro acts; rw [hr _ acts rfl rfl rfl]) | rw [hr _ _ rfl rfl rfl]
    exact Steps.refl _
  · show QP (some (.ref a_TERMINATED)) h0 n0 _ s₁.heap _
    rw [e0]
    exact ⟨rfl, N0, rfl⟩
set_option maxRecDepth 65536 in
set_option maxHeartbeats 40000000 in
theorem rm4_119 (l : Launch) (Z : State) (a0 : Array Value) (hw : ∀ d ∈ tables_1, d.before a0 Z = true) (ws : List Jvm.Cond) (a_TERMINATED : Addr) (h0 : Heap) (n0 : Nat) (Z0 : n0 ≤ h0.size) (f1 : F_0 Z h0 a_TERMINATED (.int 4)) :
    MetFree l M_2 (head1 (Jvm.Cond.code M_2 jdk_37_method_2_code 1 (some .int) :: ws) R_0_0_0_0) (fun a U => a = #[(.ref a_TERMINATED)] ∧ Z.Warmed39 U.vm ∧ U.heap = h0) (fun _ _ _ _ _ => True) (fun _ U o U' => ∃ v L, o = .returned v ∧ QP (some (.int 4)) h0 n0 v U'.heap L ∧ FrameEnd U o U' L R_0_0_0_0.cells R_0_0_0_0.slots) := by
  refine MetFree.of_bodySF (plainFor_of_name pn_java_lang_Enum) hisR ?_
  intro p e s m args below meth c s₁ Bd hml0 hP hK
  obtain ⟨rfl, hZ, hh⟩ := hP
  have hx := Bd.exec
  have hby := Bd.bytes
  have hml : c.maxLocals = 1 := hml0
  have hown : s.vm.findClass "java/lang/Enum" = some m.cls := findClass_of_methodNamed Bd.named
  have hnm := (name_of_methodNamed Bd.named Bd.method).1
  have X0 : Stand p l e R_0_0_0_0 s m #[(.ref a_TERMINATED)] below meth c s₁ [] 0 0 := Stand.of_body Bd
  have e0 : s₁.heap = h0 := by rw [← hh, Bd.state]; rfl
  have N0 := Fr.nil n0
  obtain ⟨T1, X1, e1, st1⟩ := getF X0 hx hZ hown (host := "") (Or.inl (tw_52 hw)) Via.refl e0 f1 (g := (mkF m 1 #[.val (.ref a_TERMINATED)] [(.ref a_TERMINATED)])) rfl rfl (hb hby d4_1)
  obtain ⟨fs, hr, hrun, hended, hW, hsame⟩ := X1.leave (v := (some (.int 4))) (fun h => by rw [Bd.returns] at h; cases h)
  refine ⟨_, _, castTop (ef4_R m a_TERMINATED) ?_, hrun, hended, _, _, rfl, ?_, ⟨_, rfl⟩, hW, hsame.mono (by decide) (by decide)⟩
  · show Steps p.tables e below (s₁.setTop (mkF m 0 #[.val (.ref a_TERMINATED)] [])) _
    refine XS.aloadN X0.here hx rfl (hb hby d4_0) rfl rfl ?_
    show Steps p.tables e below (s₁.setTop (mkF m 1 #[.val (.ref a_TERMINATED)] [(.ref a_TERMINATED)])) _
    refine st1 _ ?_
    show Steps p.tables e below (T1.setTop (mkF m 4 #[.val (.ref a_TERMINATED)] [(.int 4)])) _
    exact retI X1 hx Bd.returns (hb hby d4_4) hr
  · show QP (some (.int 4)) h0 n0 _ T1.heap _
    rw [e1]
    exact ⟨rfl, N0, rfl⟩
theorem d2_110 : decode prog_6_method_5_code 110 = .ok (.aload_n 0, 1) := by decide +kernel
theorem d2_111 : decode prog_6_method_5_code 111 = .ok (.invokevirtual 63, 3) := by decide +kernel
theorem tw_54 {a0 : Array Value} {Z : State} (hw : ∀ d ∈ tables_1, d.before a0 Z = true) : (Jvm.Cond.methodLink "com/example/offer/offer/model/TransferState" (63 : Nat) ({ cls := "com/example/offer/offer/model/TransferState", name := "isFinal", desc := "()Z" } : Jvm.MethodName)).before a0 Z = true := hw _ (List.mem_of_getElem? (i := 54) rfl)
theorem d2_114 : decode prog_6_method_5_code 114 = .ok (.ifCond .ne 7, 3) := by decide +kernel
theorem d2_121 : decode prog_6_method_5_code 121 = .ok (.iconst 0, 1) := by decide +kernel
def Q2_121 (Z : State)  (h0 : Heap) (n0 : Nat) (v : Option Value) (h : Heap) (L : List Loc) : Prop := v = (some (.int 0)) ∧ Fr n0 L ∧ Keep h0 h []
set_option maxRecDepth 65536 in
set_option maxHeartbeats 40000000 in
theorem rm2_120 (l : Launch) (Z : State) (a0 : Array Value) (hw : ∀ d ∈ tables_1, d.before a0 Z = true) (ws : List Jvm.Cond) (a_COMPLETED : Addr) (a_TERMINATED : Addr) (a_CONSUMER : Addr) (h0 : Heap) (n0 : Nat) (Z0 : n0 ≤ h0.size) (f1 : F_0 Z h0 a_TERMINATED (.int 4)) (f2 : E_0 Z h0 a_TERMINATED) (f3 : S_3 Z h0 (.ref a_COMPLETED)) (f4 : E_0 Z h0 a_COMPLETED) :
    MetFree l M_4 (head1 (Jvm.Cond.code M_4 prog_6_method_5_code 3 (some .boolean) :: ws) R_1_4_32_13) (fun a U => a = #[(.ref a_COMPLETED), (.ref a_TERMINATED), (.ref a_CONSUMER)] ∧ Z.Warmed39 U.vm ∧ U.heap = h0) (fun _ _ _ _ _ => True) (fun _ U o U' => ∃ v L, o = .returned v ∧ Q2_121 Z  h0 n0 v U'.heap L ∧ ReturnedEndW U o U' L R_1_4_32_13.cells R_1_4_32_13.slots) := by
  refine MetFree.of_bodySF (plainFor_of_name pn_com_example_offer_offer_model_TransferState) hisR ?_
  intro p e s m args below meth c s₁ Bd hml0 hP hK
  obtain ⟨rfl, hZ, hh⟩ := hP
  have hx := Bd.exec
  have hby := Bd.bytes
  have hml : c.maxLocals = 3 := hml0
  have hown : s.vm.findClass "com/example/offer/offer/model/TransferState" = some m.cls := findClass_of_methodNamed Bd.named
  have hnm := (name_of_methodNamed Bd.named Bd.method).1
  have X0 : Stand p l e R_1_4_32_13 s m #[(.ref a_COMPLETED), (.ref a_TERMINATED), (.ref a_CONSUMER)] below meth c s₁ [] 0 0 := Stand.of_body Bd
  have e0 : s₁.heap = h0 := by rw [← hh, Bd.state]; rfl
  have N0 := Fr.nil n0
  obtain ⟨ax116, T1, h1, kz1, X1, e1, E1, hS1, hk1, hZ1, hown1, st1⟩ := ldcS (s := s) (vm0 := s.vm) X0 hx hZ hown (tw_32 hw) (own_strs hw) e0 ((State.WarmedH.refl s).since 0) (Nat.zero_le _) (g := (mkF m 1 #[.val (.ref a_COMPLETED), .val (.ref a_TERMINATED), .val (.ref a_CONSUMER)] [(.ref a_TERMINATED)])) rfl (hb hby d2_1) (n := 16) (by decide) (by decide) (by decide) (by decide)
  have KK1 : Keep h0 h1 [] := (Keep.refl h0 []).ext E1
  -- pc 3: java/util/Objects.requireNonNull
  obtain ⟨_, _, ⟨T2, L2, k2, n2⟩, -, X2, ⟨Lc2, hQ2, l2, y2, z2⟩, st2⟩ := Jvm.LawKit.callS X1 hx (y := M_1) hown1 (mvT hZ1 (tw_40 hw)) (mvT hZ1 (tw_41 hw)) (mvT hZ1 (tw_42 hw)) (mvT hZ1 (tw_43 hw)) (by decide) (backOf (W := 0) (rm3_117 l Z a0 hw [] a_TERMINATED ax116 h1 n0 (Nat.le_trans Z0 KK1.1) ) hZ1 (tw_43 hw) (tw_42 hw) (by decide) (by decide)) (g := (mkF m 3 #[.val (.ref a_COMPLETED), .val (.ref a_TERMINATED), .val (.ref a_CONSUMER)] [(.ref ax116), (.ref a_TERMINATED)])) rfl (by rw [hml]; rfl) (argsL := [(.ref a_TERMINATED), (.ref ax116)]) (rest := []) (lenOf pd_1 rfl) rfl (by show 2 * 0 + _ ≤ _; exact Nat.le_of_eq rfl) (hb hby d2_3) (fun _ _ => ⟨rfl, e1, (by decide : 2 + 0 ≤ _), (by decide : 20 + 0 ≤ _)⟩)
  dsimp only [Pt.U, Pt.locs, Pt.cells, Pt.slots] at X2 l2 y2 z2 st2 hQ2
  subst l2 y2 z2
  obtain ⟨rfl, Nq2, e2⟩ := hQ2
  have N2 := Fr.app N0 Nq2
  obtain ⟨ax118, T3, h3, kz3, X3, e3, E3, hS3, hk3, hZ3, hown3, st3⟩ := ldcS (s := s) (vm0 := T1.vm) X2 hx hZ1 hown1 (tw_44 hw) (own_strs hw) e2 hS1 hk1 (g := (mkF m 8 #[.val (.ref a_COMPLETED), .val (.ref a_TERMINATED), .val (.ref a_CONSUMER)] [(.ref a_CONSUMER)])) rfl (hb hby d2_8) (n := 8) (by decide) (by decide) (by decide) (by decide)
  have KK3 : Keep h0 h3 [] := KK1.ext E3
  -- pc 10: java/util/Objects.requireNonNull
  obtain ⟨_, _, ⟨T4, L4, k4, n4⟩, -, X4, ⟨Lc4, hQ4, l4, y4, z4⟩, st4⟩ := Jvm.LawKit.callS X3 hx (y := M_1) hown3 (mvT hZ3 (tw_40 hw)) (mvT hZ3 (tw_41 hw)) (mvT hZ3 (tw_42 hw)) (mvT hZ3 (tw_43 hw)) (by decide) (backOf (W := 0) (rm3_53 l Z a0 hw [] a_CONSUMER ax118 h3 n0 (Nat.le_trans Z0 KK3.1) ) hZ3 (tw_43 hw) (tw_42 hw) (by decide) (by decide)) (g := (mkF m 10 #[.val (.ref a_COMPLETED), .val (.ref a_TERMINATED), .val (.ref a_CONSUMER)] [(.ref ax118), (.ref a_CONSUMER)])) rfl (by rw [hml]; rfl) (argsL := [(.ref a_CONSUMER), (.ref ax118)]) (rest := []) (lenOf pd_1 rfl) rfl (by show 2 * 0 + _ ≤ _; exact Nat.le_of_eq rfl) (hb hby d2_10) (fun _ _ => ⟨rfl, e3, (by decide : 4 + 0 ≤ _), (by decide : 32 + 0 ≤ _)⟩)
  dsimp only [Pt.U, Pt.locs, Pt.cells, Pt.slots] at X4 l4 y4 z4 st4 hQ4
  subst l4 y4 z4
  obtain ⟨rfl, Nq4, e4⟩ := hQ4
  have N4 := Fr.app N2 Nq4
  -- pc 15: java/lang/Enum.ordinal
  have u5 : F_0 Z h1 a_TERMINATED (.int 4) := Fld.ext E1 f1
  have u6 : F_0 Z h3 a_TERMINATED (.int 4) := Fld.ext E3 u5
  have u8 : E_0 Z h1 a_TERMINATED := Exa.ext E1 f2
  have u9 : E_0 Z h3 a_TERMINATED := Exa.ext E3 u8
  obtain ⟨cq7, kq7, q7a, q7b, q7c⟩ := isOf hZ3 e4 u9
  obtain ⟨_, _, ⟨T7, L7, k7, n7⟩, -, X7, ⟨Lc7, hQ7, l7, y7, z7⟩, st7⟩ := X4.virtualBackUp hx (x := M_3) (y := M_2) (owner := "java/lang/Enum") hown3 (mvT hZ3 (tw_45 hw)) (mvT hZ3 (tw_46 hw)) (mvT hZ3 (tw_47 hw)) (by decide) (mvT hZ3 (tw_49 hw)) (mvT hZ3 (tw_48 hw)) (backOf (W := 0) (rm4_119 l Z a0 hw [] a_TERMINATED h3 n0 (Nat.le_trans Z0 KK3.1) u6) hZ3 (tw_51 hw) (tw_50 hw) (by decide) (by decide)) q7a q7c (g := (mkF m 15 #[.val (.ref a_COMPLETED), .val (.ref a_TERMINATED), .val (.ref a_CONSUMER)] [(.ref a_TERMINATED)])) rfl (by rw [hml]; rfl) (Steps.refl _) (argsL := []) (rest := []) (lenOf pd_2 rfl) rfl (by show 2 * 0 + _ ≤ _; exact Nat.le_of_eq rfl) (hb hby d2_15) (fun _ _ => ⟨rfl, e4, (by decide : 4 + 0 ≤ _), (by decide : 32 + 0 ≤ _)⟩)
  dsimp only [Pt.U, Pt.locs, Pt.cells, Pt.slots] at X7 l7 y7 z7 st7 hQ7
  subst l7 y7 z7
  obtain ⟨rfl, Nq7, e7⟩ := hQ7
  have N7 := Fr.app N4 Nq7
  -- pc 111: com/example/offer/offer/model/TransferState.isFinal
  have u10 : S_3 Z h1 (.ref a_COMPLETED) := Sta.ext E1 f3
  have u11 : S_3 Z h3 (.ref a_COMPLETED) := Sta.ext E3 u10
  have u13 : E_0 Z h1 a_COMPLETED := Exa.ext E1 f4
  have u14 : E_0 Z h3 a_COMPLETED := Exa.ext E3 u13
  obtain ⟨cq12, kq12, q12a, q12b, q12c⟩ := isOf hZ3 e7 u14
  obtain ⟨_, _, ⟨T12, L12, k12, n12⟩, -, X12, ⟨Lc12, hQ12, l12, y12, z12⟩, st12⟩ := X7.virtualBack hx (y := M_0) (z := M_0) hown3 (mvT hZ3 (tw_54 hw)) (mvT hZ3 (tw_19 hw)) (notFace_of_selects (args := #[]) (mvT hZ3 (tw_21 hw))) (mvT hZ3 (tw_21 hw)) (mvT hZ3 (tw_20 hw)) (by decide) (backOf (W := 0) (rm1_49 l Z a0 hw [] a_COMPLETED h3 n0 (Nat.le_trans Z0 KK3.1) u11) hZ3 (tw_22 hw) (tw_3 hw) (by decide) (by decide)) q12a q12c (g := (mkF m 111 #[.val (.ref a_COMPLETED), .val (.ref a_TERMINATED), .val (.ref a_CONSUMER)] [(.ref a_COMPLETED)])) rfl (by rw [hml]; rfl) (Steps.refl _) (argsL := []) (rest := []) (lenOf pd_0 rfl) rfl (by show 2 * 0 + _ ≤ _; exact Nat.le_of_eq rfl) (hb hby d2_111) (fun _ _ => ⟨rfl, e7, (by decide : 4 + 0 ≤ _), (by decide : 32 + 0 ≤ _)⟩)
  dsimp only [Pt.U, Pt.locs, Pt.cells, Pt.slots] at X12 l12 y12 z12 st12 hQ12
  subst l12 y12 z12
  obtain ⟨rfl, Nq12, e12⟩ := hQ12
  have N12 := Fr.app N7 Nq12
  obtain ⟨fs, hr, hrun, hended, hRE⟩ := X12.leaveW hS3 (by rw [e12]; exact hk3) (v := (some (.int 0))) (fun h => by rw [Bd.returns] at h; cases h)
  refine ⟨_, _, castTop (ef2_RRR m a_COMPLETED a_TERMINATED a_CONSUMER) ?_, hrun, hended, _, _, rfl, ?_, hRE.1, hRE.2.1, hRE.2.2.1, hRE.2.2.2.mono (by decide) (by decide)⟩
  · show Steps p.tables e below (s₁.setTop (mkF m 0 #[.val (.ref a_COMPLETED), .val (.ref a_TERMINATED), .val (.ref a_CONSUMER)] [])) _
    refine XS.aloadN X0.here hx rfl (hb hby d2_0) rfl rfl ?_
    show Steps p.tables e below (s₁.setTop (mkF m 1 #[.val (.ref a_COMPLETED), .val (.ref a_TERMINATED), .val (.ref a_CONSUMER)] [(.ref a_TERMINATED)])) _
    refine st1 _ ?_
    show Steps p.tables e below (T1.setTop (mkF m 3 #[.val (.ref a_COMPLETED), .val (.ref a_TERMINATED), .val (.ref a_CONSUMER)] [(.ref ax116), (.ref a_TERMINATED)])) _
    refine st2 _ ?_
    refine XS.pop X2.here hx rfl (hb hby d2_6) rfl rfl ?_
    refine XS.aloadN X2.here hx rfl (hb hby d2_7) rfl rfl ?_
    show Steps p.tables e below (T2.setTop (mkF m 8 #[.val (.ref a_COMPLETED), .val (.ref a_TERMINATED), .val (.ref a_CONSUMER)] [(.ref a_CONSUMER)])) _
    refine st3 _ ?_
    show Steps p.tables e below (T3.setTop (mkF m 10 #[.val (.ref a_COMPLETED), .val (.ref a_TERMINATED), .val (.ref a_CONSUMER)] [(.ref ax118), (.ref a_CONSUMER)])) _
    refine st4 _ ?_
    refine XS.pop X4.here hx rfl (hb hby d2_13) rfl rfl ?_
    refine XS.aloadN X4.here hx rfl (hb hby d2_14) rfl rfl ?_
    show Steps p.tables e below (T4.setTop (mkF m 15 #[.val (.ref a_COMPLETED), .val (.ref a_TERMINATED), .val (.ref a_CONSUMER)] [(.ref a_TERMINATED)])) _
    refine st7.trans ?_
    show Steps p.tables e below (T7.setTop (mkF m 18 #[.val (.ref a_COMPLETED), .val (.ref a_TERMINATED), .val (.ref a_CONSUMER)] [(.int 4)])) _
    refine XS.tswIn X7.here hx rfl (pc0 := 18) (pc' := 110) (o := 92) rfl (hb hby d2_18) rfl (by decide) (by decide) (by decide) (by decide) ?_
    refine XS.aloadN X7.here hx rfl (hb hby d2_110) rfl rfl ?_
    show Steps p.tables e below (T7.setTop (mkF m 111 #[.val (.ref a_COMPLETED), .val (.ref a_TERMINATED), .val (.ref a_CONSUMER)] [(.ref a_COMPLETED)])) _
    refine st12.trans ?_
    refine XS.ifYes X12.here hx rfl (pc0 := 114) (pc' := 121) rfl (hb hby d2_114) rfl (by decide) (by decide) (by decide) ?_
    refine XS.iconst X12.here hx rfl (hb hby d2_121) ?_
    show Steps p.tables e below (T12.setTop (mkF m 122 #[.val (.ref a_COMPLETED), .val (.ref a_TERMINATED), .val (.ref a_CONSUMER)] [(.int 0)])) _
    exact retN X12 hx (t := .boolean) Bd.returns (by simp) (hb hby d2_122) hr
  · show Q2_121 Z  h0 n0 _ T12.heap _
    rw [e12]
    exact ⟨rfl, N12, KK3⟩
set_option maxRecDepth 65536 in
set_option maxHeartbeats 40000000 in
theorem rm0_122 (l : Launch) (Z : State) (a0 : Array Value) (hw : ∀ d ∈ tables_1, d.before a0 Z = true) (ws : List Jvm.Cond) (p0 : Int32) (p1 : Int32) (p2 : Int32) (a_REQUESTED : Addr) (a_STARTED : Addr) (a_SUSPENDED : Addr) (a_COMPLETED : Addr) (a_TERMINATED : Addr) (a_CONSUMER : Addr) (h0 : Heap) (n0 : Nat) (Z0 : n0 ≤ h0.size) (f1 : S_0 Z h0 (.ref a_REQUESTED)) (f2 : E_0 Z h0 a_REQUESTED) (f3 : S_1 Z h0 (.ref a_STARTED)) (f4 : E_0 Z h0 a_STARTED) (f5 : S_2 Z h0 (.ref a_SUSPENDED)) (f6 : E_0 Z h0 a_SUSPENDED) (f7 : S_3 Z h0 (.ref a_COMPLETED)) (f8 : E_0 Z h0 a_COMPLETED) (f9 : S_4 Z h0 (.ref a_TERMINATED)) (f10 : E_0 Z h0 a_TERMINATED) (f11 : ((p0 &&& (2147483647 : Int32)) % (5 : Int32)) = (3 : Int32)) (f12 : ((p1 &&& (2147483647 : Int32)) % (5 : Int32)) = (4 : Int32)) (f13 : (p2 &&& (1 : Int32)) = (0 : Int32)) (f14 : S_5 Z h0 (.ref a_CONSUMER)) (f15 : F_0 Z h0 a_TERMINATED (.int 4)) :
    MetFree l x (head1 (Jvm.Cond.code x code maxLocals ret :: ws) room_1) (fun a U => a = #[(.int p0), (.int p1), (.int p2)] ∧ Z.Warmed39 U.vm ∧ U.heap = h0) (fun _ _ _ _ _ => True) (fun _ U o U' => ∃ v L, o = .returned v ∧ QT n0 v U'.heap L ∧ ReturnedEndW U o U' L room_1.cells room_1.slots) := by
  refine MetFree.of_bodySF (plainFor_of_name pn_com_example_offer_offer_model_TransferStateIsFinalPinLaw) hisR ?_
  intro p e s m args below meth c s₁ Bd hml0 hP hK
  obtain ⟨rfl, hZ, hh⟩ := hP
  have hx := Bd.exec
  have hby := Bd.bytes
  have hml : c.maxLocals = 10 := hml0
  have hown : s.vm.findClass "com/example/offer/offer/model/TransferStateIsFinalPinLaw" = some m.cls := findClass_of_methodNamed Bd.named
  have hnm := (name_of_methodNamed Bd.named Bd.method).1
  have X0 : Stand p l e room_1 s m #[(.int p0), (.int p1), (.int p2)] below meth c s₁ [] 0 0 := Stand.of_body Bd
  have e0 : s₁.heap = h0 := by rw [← hh, Bd.state]; rfl
  have N0 := Fr.nil n0
  obtain ⟨T1, h1, L1, b114, kc115, X1, e1, N1, K1, le_b114, o1_0, o1_1, st1⟩ := sg0_25 p0 p1 p2 a_REQUESTED a_STARTED a_SUSPENDED a_COMPLETED a_TERMINATED X0 hx hZ hw hby hml hown e0 N0 Z0 f1 f2 f3 f4 f5 f6 f7 f8 f9 f10
  have sz_b114 : h0.size ≤ b114 := Nat.le_trans (Nat.le_refl _) le_b114
  have g_b114 : n0 ≤ b114 := Nat.le_trans Z0 sz_b114
  have KK1 : Keep h0 h1 [] := (Keep.refl h0 []).trans K1 (fun x hx => nomatch hx)
  have u2 : S_5 Z h1 (.ref a_CONSUMER) := own_sta_keep f14 K1 (fun _ q => nomatch q)
  obtain ⟨T3, X3, e3, st3⟩ := getS2 X1 hx hZ hown (host := "") (Or.inl (tw_15 hw)) Via.refl e1 u2 (g := (mkF m 63 #[.val (.int p0), .val (.int p1), .val (.int p2), .val (.ref b114), .val (.int 3), .val (.int 4), .unset, .unset, .unset, .unset] [])) rfl (hb hby at_63)
  have va4 := o1_0
  obtain ⟨cl4, Ar4, -, S4, -, H4, -⟩ := va4
  have hin4 : ¬ ((3 : Int32) < 0 ∨ cl4.slots.size ≤ ((3 : Int32)).toNatClampNeg) := inb_of S4 ⟨by decide, by decide⟩
  have hat4 : cl4.slots[((3 : Int32)).toNatClampNeg]? = some (.ref a_COMPLETED) := H4 _ (Nat.lt_of_not_le fun y => hin4 (Or.inr y))
  -- pc 76: com/example/offer/offer/model/TransferState.isFinal
  have u5 : S_3 Z h1 (.ref a_COMPLETED) := own_sta_keep f7 K1 (fun _ q => nomatch q)
  have u7 : E_0 Z h1 a_COMPLETED := Exa.keep f8 K1
  obtain ⟨cq6, kq6, q6a, q6b, q6c⟩ := isOf hZ e3 u7
  obtain ⟨_, _, ⟨T6, L6, k6, n6⟩, -, X6, ⟨Lc6, hQ6, l6, y6, z6⟩, st6⟩ := X3.virtualBack hx (y := M_0) (z := M_0) hown (mvT hZ (tw_18 hw)) (mvT hZ (tw_19 hw)) (notFace_of_selects (args := #[]) (mvT hZ (tw_21 hw))) (mvT hZ (tw_21 hw)) (mvT hZ (tw_20 hw)) (by decide) (backOf (W := 0) (rm1_49 l Z a0 hw [] a_COMPLETED h1 n0 (Nat.le_trans Z0 KK1.1) u5) hZ (tw_22 hw) (tw_3 hw) (by decide) (by decide)) q6a q6c (g := (mkF m 76 #[.val (.int p0), .val (.int p1), .val (.int p2), .val (.ref b114), .val (.int 3), .val (.int 4), .val (.ref a_CONSUMER), .val (.ref a_COMPLETED), .unset, .unset] [(.ref a_COMPLETED)])) rfl (by rw [hml]; rfl) (Steps.refl _) (argsL := []) (rest := []) (lenOf pd_0 rfl) rfl (by show 2 * 0 + _ ≤ _; exact Nat.le_of_eq rfl) (hb hby at_76) (fun _ _ => ⟨rfl, e3, (by decide : 1 + 0 ≤ _), (by decide : 5 + 0 ≤ _)⟩)
  dsimp only [Pt.U, Pt.locs, Pt.cells, Pt.slots] at X6 l6 y6 z6 st6 hQ6
  subst l6 y6 z6
  obtain ⟨rfl, Nq6, e6⟩ := hQ6
  have N6 := Fr.app N1 Nq6
  have va8 := o1_0
  obtain ⟨cl8, Ar8, -, S8, -, H8, -⟩ := va8
  have hin8 : ¬ ((4 : Int32) < 0 ∨ cl8.slots.size ≤ ((4 : Int32)).toNatClampNeg) := inb_of S8 ⟨by decide, by decide⟩
  have hat8 : cl8.slots[((4 : Int32)).toNatClampNeg]? = some (.ref a_TERMINATED) := H8 _ (Nat.lt_of_not_le fun y => hin8 (Or.inr y))
  -- pc 116: com/example/offer/offer/model/TransferState.canMoveTo
  have u9 : F_0 Z h1 a_TERMINATED (.int 4) := Fld.keep f15 K1 List.not_mem_nil
  have u10 : E_0 Z h1 a_TERMINATED := Exa.keep f10 K1
  obtain ⟨cq11, kq11, q11a, q11b, q11c⟩ := isOf hZ e6 u7
  obtain ⟨_, _, ⟨T11, L11, k11, n11⟩, -, X11, hS11, hg11, ⟨Lc11, hQ11, l11, y11, z11⟩, st11⟩ := X6.virtualBackS hx (y := M_4) (z := M_4) hown (mvT hZ (tw_27 hw)) (mvT hZ (tw_28 hw)) (notFace_of_selects (args := #[]) (mvT hZ (tw_30 hw))) (mvT hZ (tw_30 hw)) (mvT hZ (tw_29 hw)) (by decide) (backOfS (W := 0) (rm2_120 l Z a0 hw [] a_COMPLETED a_TERMINATED a_CONSUMER h1 n0 (Nat.le_trans Z0 KK1.1) u9 u10 u5 u7) hZ (tw_31 hw) (tw_3 hw) (by decide) (by decide)) q11a q11c (g := (mkF m 116 #[.val (.int p0), .val (.int p1), .val (.int p2), .val (.ref b114), .val (.int 3), .val (.int 4), .val (.ref a_CONSUMER), .val (.ref a_COMPLETED), .val (.int 1), .val (.int 1)] [(.ref a_CONSUMER), (.ref a_TERMINATED), (.ref a_COMPLETED)])) rfl (by rw [hml]; rfl) (Steps.refl _) (argsL := [(.ref a_TERMINATED), (.ref a_CONSUMER)]) (rest := []) (lenOf pd_3 rfl) rfl (by show 2 * 0 + _ ≤ _; exact Nat.le_of_eq rfl) (hb hby at_116) (fun _ _ => ⟨rfl, e6, (by decide : 1 + 4 ≤ _), (by decide : 5 + 32 ≤ _)⟩)
  dsimp only [Pt.U, Pt.locs, Pt.cells, Pt.slots] at X11 l11 y11 z11 st11 hQ11 hS11 hg11
  subst l11 y11 z11
  have hZ11 : Z.Warmed39 (s.setVm T11.vm).vm := State.Warmed39.trans hZ hS11.1
  have hown11 : (s.setVm T11.vm).vm.findClass "com/example/offer/offer/model/TransferStateIsFinalPinLaw" = some m.cls := by rw [show (s.setVm T11.vm).vm = T11.vm from rfl, hS11.1.alike.findClass]; exact hown
  obtain ⟨rfl, Nq11, K11⟩ := hQ11
  have N11 := Fr.app N6 Nq11
  have KK11 : Keep h0 T11.heap [] := KK1.trans K11 (fun x hx => nomatch hx)
  obtain ⟨fs, hr, hrun, hended, hRE⟩ := X11.leaveW hS11 (by exact (Nat.le_refl _)) (v := (some (.int 1))) (fun h => by rw [Bd.returns] at h; cases h)
  refine ⟨_, _, castTop (ef0_III m p0 p1 p2) ?_, hrun, hended, _, _, rfl, ?_, hRE.1, hRE.2.1, hRE.2.2.1, hRE.2.2.2.mono (by decide) (by decide)⟩
  · show Steps p.tables e below (s₁.setTop (mkF m 0 #[.val (.int p0), .val (.int p1), .val (.int p2), .unset, .unset, .unset, .unset, .unset, .unset, .unset] [])) _
    refine st1 _ ?_
    refine XS.iloadN X1.here hx rfl (hb hby at_35) rfl ?_
    show Steps p.tables e below (T1.setTop (mkF m 36 #[.val (.int p0), .val (.int p1), .val (.int p2), .val (.ref b114), .unset, .unset, .unset, .unset, .unset, .unset] [(.int p0)])) _
    refine X1.ldcInt hx hown (mvT hZ (tw_14 hw)) (g := (mkF m 36 #[.val (.int p0), .val (.int p1), .val (.int p2), .val (.ref b114), .unset, .unset, .unset, .unset, .unset, .unset] [(.int p0)])) rfl (hb hby at_36) _ ?_
    show Steps p.tables e below (T1.setTop (mkF m 38 #[.val (.int p0), .val (.int p1), .val (.int p2), .val (.ref b114), .unset, .unset, .unset, .unset, .unset, .unset] [(.int 2147483647), (.int p0)])) _
    refine XS.iand X1.here hx rfl (hb hby at_38) rfl ?_
    refine XS.iconst X1.here hx rfl (hb hby at_39) ?_
    show Steps p.tables e below (T1.setTop (mkF m 40 #[.val (.int p0), .val (.int p1), .val (.int p2), .val (.ref b114), .unset, .unset, .unset, .unset, .unset, .unset] [(.int 5), (.int (p0 &&& (2147483647 : Int32)))])) _
    refine iremM X1 hx rfl (hb hby at_40) rfl (by decide) ?_
    show Steps p.tables e below (T1.setTop (mkF m 41 #[.val (.int p0), .val (.int p1), .val (.int p2), .val (.ref b114), .unset, .unset, .unset, .unset, .unset, .unset] [(.int ((p0 &&& (2147483647 : Int32)) % (5 : Int32)))])) _
    rw [f11]
    refine XS.istore X1.here hx rfl (hb hby at_41) rfl (l' := #[.val (.int p0), .val (.int p1), .val (.int p2), .val (.ref b114), .val (.int 3), .unset, .unset, .unset, .unset, .unset]) rfl ?_
    refine XS.iloadN X1.here hx rfl (hb hby at_43) rfl ?_
    show Steps p.tables e below (T1.setTop (mkF m 44 #[.val (.int p0), .val (.int p1), .val (.int p2), .val (.ref b114), .val (.int 3), .unset, .unset, .unset, .unset, .unset] [(.int p1)])) _
    refine X1.ldcInt hx hown (mvT hZ (tw_14 hw)) (g := (mkF m 44 #[.val (.int p0), .val (.int p1), .val (.int p2), .val (.ref b114), .val (.int 3), .unset, .unset, .unset, .unset, .unset] [(.int p1)])) rfl (hb hby at_44) _ ?_
    show Steps p.tables e below (T1.setTop (mkF m 46 #[.val (.int p0), .val (.int p1), .val (.int p2), .val (.ref b114), .val (.int 3), .unset, .unset, .unset, .unset, .unset] [(.int 2147483647), (.int p1)])) _
    refine XS.iand X1.here hx rfl (hb hby at_46) rfl ?_
    refine XS.iconst X1.here hx rfl (hb hby at_47) ?_
    show Steps p.tables e below (T1.setTop (mkF m 48 #[.val (.int p0), .val (.int p1), .val (.int p2), .val (.ref b114), .val (.int 3), .unset, .unset, .unset, .unset, .unset] [(.int 5), (.int (p1 &&& (2147483647 : Int32)))])) _
    refine iremM X1 hx rfl (hb hby at_48) rfl (by decide) ?_
    show Steps p.tables e below (T1.setTop (mkF m 49 #[.val (.int p0), .val (.int p1), .val (.int p2), .val (.ref b114), .val (.int 3), .unset, .unset, .unset, .unset, .unset] [(.int ((p1 &&& (2147483647 : Int32)) % (5 : Int32)))])) _
    rw [f12]
    refine XS.istore X1.here hx rfl (hb hby at_49) rfl (l' := #[.val (.int p0), .val (.int p1), .val (.int p2), .val (.ref b114), .val (.int 3), .val (.int 4), .unset, .unset, .unset, .unset]) rfl ?_
    refine XS.iloadN X1.here hx rfl (hb hby at_51) rfl ?_
    refine XS.iconst X1.here hx rfl (hb hby at_52) ?_
    show Steps p.tables e below (T1.setTop (mkF m 53 #[.val (.int p0), .val (.int p1), .val (.int p2), .val (.ref b114), .val (.int 3), .val (.int 4), .unset, .unset, .unset, .unset] [(.int 1), (.int p2)])) _
    refine XS.iand X1.here hx rfl (hb hby at_53) rfl ?_
    refine XS.ifYes X1.here hx rfl (pc0 := 54) (pc' := 63) rfl (hb hby at_54) rfl ((if0 _ _).trans (teq (f13 : (p2 &&& (1 : Int32)) = (0 : Int32))).1) (by decide) (by decide) ?_
    show Steps p.tables e below (T1.setTop (mkF m 63 #[.val (.int p0), .val (.int p1), .val (.int p2), .val (.ref b114), .val (.int 3), .val (.int 4), .unset, .unset, .unset, .unset] [])) _
    refine st3 _ ?_
    refine XS.astore X3.here hx rfl (hb hby at_66) rfl rfl (l' := #[.val (.int p0), .val (.int p1), .val (.int p2), .val (.ref b114), .val (.int 3), .val (.int 4), .val (.ref a_CONSUMER), .unset, .unset, .unset]) rfl ?_
    refine XS.aloadN X3.here hx rfl (hb hby at_68) rfl rfl ?_
    refine XS.iload X3.here hx rfl (hb hby at_69) rfl ?_
    show Steps p.tables e below (T3.setTop (mkF m 71 #[.val (.int p0), .val (.int p1), .val (.int p2), .val (.ref b114), .val (.int 3), .val (.int 4), .val (.ref a_CONSUMER), .unset, .unset, .unset] [(.int 3), (.ref b114)])) _
    refine X3.aaload hx (j := (3 : Int32)) (v := (.ref a_COMPLETED)) (by rw [e3]; exact Ar4.1) (State.isArrayOf_alike hZ.alike Ar4.2.1) rfl Ar4.2.2 hin4 hat4 (g := (mkF m 71 #[.val (.int p0), .val (.int p1), .val (.int p2), .val (.ref b114), .val (.int 3), .val (.int 4), .val (.ref a_CONSUMER), .unset, .unset, .unset] [(.int 3), (.ref b114)])) rfl rfl (hb hby at_71) _ ?_
    refine XS.astore X3.here hx rfl (hb hby at_72) rfl rfl (l' := #[.val (.int p0), .val (.int p1), .val (.int p2), .val (.ref b114), .val (.int 3), .val (.int 4), .val (.ref a_CONSUMER), .val (.ref a_COMPLETED), .unset, .unset]) rfl ?_
    refine XS.aload X3.here hx rfl (hb hby at_74) rfl rfl ?_
    show Steps p.tables e below (T3.setTop (mkF m 76 #[.val (.int p0), .val (.int p1), .val (.int p2), .val (.ref b114), .val (.int 3), .val (.int 4), .val (.ref a_CONSUMER), .val (.ref a_COMPLETED), .unset, .unset] [(.ref a_COMPLETED)])) _
    refine st6.trans ?_
    refine XS.istore X6.here hx rfl (hb hby at_79) rfl (l' := #[.val (.int p0), .val (.int p1), .val (.int p2), .val (.ref b114), .val (.int 3), .val (.int 4), .val (.ref a_CONSUMER), .val (.ref a_COMPLETED), .val (.int 1), .unset]) rfl ?_
    refine XS.iload X6.here hx rfl (hb hby at_81) rfl ?_
    refine XS.iconst X6.here hx rfl (hb hby at_83) ?_
    refine XS.icmpNo X6.here hx rfl (hb hby at_84) rfl (by decide) ?_
    show Steps p.tables e below (T6.setTop (mkF m 87 #[.val (.int p0), .val (.int p1), .val (.int p2), .val (.ref b114), .val (.int 3), .val (.int 4), .val (.ref a_CONSUMER), .val (.ref a_COMPLETED), .val (.int 1), .unset] [])) _
    refine XS.iconst X6.here hx rfl (hb hby at_87) ?_
    refine XS.goto X6.here hx rfl (pc0 := 88) (pc' := 92) rfl (hb hby at_88) (by decide) (by decide) ?_
    refine XS.istore X6.here hx rfl (hb hby at_92) rfl (l' := #[.val (.int p0), .val (.int p1), .val (.int p2), .val (.ref b114), .val (.int 3), .val (.int 4), .val (.ref a_CONSUMER), .val (.ref a_COMPLETED), .val (.int 1), .val (.int 1)]) rfl ?_
    refine XS.iload X6.here hx rfl (hb hby at_94) rfl ?_
    refine XS.iload X6.here hx rfl (hb hby at_96) rfl ?_
    show Steps p.tables e below (T6.setTop (mkF m 98 #[.val (.int p0), .val (.int p1), .val (.int p2), .val (.ref b114), .val (.int 3), .val (.int 4), .val (.ref a_CONSUMER), .val (.ref a_COMPLETED), .val (.int 1), .val (.int 1)] [(.int 1), (.int 1)])) _
    refine XS.icmpYes X6.here hx rfl (pc0 := 98) (pc' := 103) rfl (hb hby at_98) rfl (by decide) (by decide) (by decide) ?_
    refine XS.iload X6.here hx rfl (hb hby at_103) rfl ?_
    refine XS.ifNo X6.here hx rfl (hb hby at_105) rfl (by decide) ?_
    refine XS.aload X6.here hx rfl (hb hby at_108) rfl rfl ?_
    refine XS.aloadN X6.here hx rfl (hb hby at_110) rfl rfl ?_
    show Steps p.tables e below (T6.setTop (mkF m 111 #[.val (.int p0), .val (.int p1), .val (.int p2), .val (.ref b114), .val (.int 3), .val (.int 4), .val (.ref a_CONSUMER), .val (.ref a_COMPLETED), .val (.int 1), .val (.int 1)] [(.ref b114), (.ref a_COMPLETED)])) _
    refine XS.iload X6.here hx rfl (hb hby at_111) rfl ?_
    show Steps p.tables e below (T6.setTop (mkF m 113 #[.val (.int p0), .val (.int p1), .val (.int p2), .val (.ref b114), .val (.int 3), .val (.int 4), .val (.ref a_CONSUMER), .val (.ref a_COMPLETED), .val (.int 1), .val (.int 1)] [(.int 4), (.ref b114), (.ref a_COMPLETED)])) _
    refine X6.aaload hx (j := (4 : Int32)) (v := (.ref a_TERMINATED)) (by rw [e6]; exact Ar8.1) (State.isArrayOf_alike hZ.alike Ar8.2.1) rfl Ar8.2.2 hin8 hat8 (g := (mkF m 113 #[.val (.int p0), .val (.int p1), .val (.int p2), .val (.ref b114), .val (.int 3), .val (.int 4), .val (.ref a_CONSUMER), .val (.ref a_COMPLETED), .val (.int 1), .val (.int 1)] [(.int 4), (.ref b114), (.ref a_COMPLETED)])) rfl rfl (hb hby at_113) _ ?_
    refine XS.aload X6.here hx rfl (hb hby at_114) rfl rfl ?_
    show Steps p.tables e below (T6.setTop (mkF m 116 #[.val (.int p0), .val (.int p1), .val (.int p2), .val (.ref b114), .val (.int 3), .val (.int 4), .val (.ref a_CONSUMER), .val (.ref a_COMPLETED), .val (.int 1), .val (.int 1)] [(.ref a_CONSUMER), (.ref a_TERMINATED), (.ref a_COMPLETED)])) _
    refine st11.trans ?_
    refine XS.ifYes X11.here hx rfl (pc0 := 119) (pc' := 124) rfl (hb hby at_119) rfl (by decide) (by decide) (by decide) ?_
    refine XS.iconst X11.here hx rfl (hb hby at_124) ?_
    show Steps p.tables e below (T11.setTop (mkF m 125 #[.val (.int p0), .val (.int p1), .val (.int p2), .val (.ref b114), .val (.int 3), .val (.int 4), .val (.ref a_CONSUMER), .val (.ref a_COMPLETED), .val (.int 1), .val (.int 1)] [(.int 1)])) _
    exact retN X11 hx (t := .boolean) Bd.returns (by simp) (hb hby at_125) hr
  · show QT n0 _ T11.heap _
    exact ⟨rfl, N11⟩
def Q2_128 (Z : State)  (h0 : Heap) (n0 : Nat) (v : Option Value) (h : Heap) (L : List Loc) : Prop := v = (some (.int 0)) ∧ Fr n0 L ∧ Keep h0 h []
set_option maxRecDepth 65536 in
set_option maxHeartbeats 40000000 in
theorem rm2_127 (l : Launch) (Z : State) (a0 : Array Value) (hw : ∀ d ∈ tables_1, d.before a0 Z = true) (ws : List Jvm.Cond) (a_COMPLETED : Addr) (a_TERMINATED : Addr) (a_PROVIDER : Addr) (h0 : Heap) (n0 : Nat) (Z0 : n0 ≤ h0.size) (f1 : F_0 Z h0 a_TERMINATED (.int 4)) (f2 : E_0 Z h0 a_TERMINATED) (f3 : S_3 Z h0 (.ref a_COMPLETED)) (f4 : E_0 Z h0 a_COMPLETED) :
    MetFree l M_4 (head1 (Jvm.Cond.code M_4 prog_6_method_5_code 3 (some .boolean) :: ws) R_1_4_32_13) (fun a U => a = #[(.ref a_COMPLETED), (.ref a_TERMINATED), (.ref a_PROVIDER)] ∧ Z.Warmed39 U.vm ∧ U.heap = h0) (fun _ _ _ _ _ => True) (fun _ U o U' => ∃ v L, o = .returned v ∧ Q2_128 Z  h0 n0 v U'.heap L ∧ ReturnedEndW U o U' L R_1_4_32_13.cells R_1_4_32_13.slots) := by
  refine MetFree.of_bodySF (plainFor_of_name pn_com_example_offer_offer_model_TransferState) hisR ?_
  intro p e s m args below meth c s₁ Bd hml0 hP hK
  obtain ⟨rfl, hZ, hh⟩ := hP
  have hx := Bd.exec
  have hby := Bd.bytes
  have hml : c.maxLocals = 3 := hml0
  have hown : s.vm.findClass "com/example/offer/offer/model/TransferState" = some m.cls := findClass_of_methodNamed Bd.named
  have hnm := (name_of_methodNamed Bd.named Bd.method).1
  have X0 : Stand p l e R_1_4_32_13 s m #[(.ref a_COMPLETED), (.ref a_TERMINATED), (.ref a_PROVIDER)] below meth c s₁ [] 0 0 := Stand.of_body Bd
  have e0 : s₁.heap = h0 := by rw [← hh, Bd.state]; rfl
  have N0 := Fr.nil n0
  obtain ⟨ax125, T1, h1, kz1, X1, e1, E1, hS1, hk1, hZ1, hown1, st1⟩ := ldcS (s := s) (vm0 := s.vm) X0 hx hZ hown (tw_32 hw) (own_strs hw) e0 ((State.WarmedH.refl s).since 0) (Nat.zero_le _) (g := (mkF m 1 #[.val (.ref a_COMPLETED), .val (.ref a_TERMINATED), .val (.ref a_PROVIDER)] [(.ref a_TERMINATED)])) rfl (hb hby d2_1) (n := 16) (by decide) (by decide) (by decide) (by decide)
  have KK1 : Keep h0 h1 [] := (Keep.refl h0 []).ext E1
  -- pc 3: java/util/Objects.requireNonNull
  obtain ⟨_, _, ⟨T2, L2, k2, n2⟩, -, X2, ⟨Lc2, hQ2, l2, y2, z2⟩, st2⟩ := Jvm.LawKit.callS X1 hx (y := M_1) hown1 (mvT hZ1 (tw_40 hw)) (mvT hZ1 (tw_41 hw)) (mvT hZ1 (tw_42 hw)) (mvT hZ1 (tw_43 hw)) (by decide) (backOf (W := 0) (rm3_117 l Z a0 hw [] a_TERMINATED ax125 h1 n0 (Nat.le_trans Z0 KK1.1) ) hZ1 (tw_43 hw) (tw_42 hw) (by decide) (by decide)) (g := (mkF m 3 #[.val (.ref a_COMPLETED), .val (.ref a_TERMINATED), .val (.ref a_PROVIDER)] [(.ref ax125), (.ref a_TERMINATED)])) rfl (by rw [hml]; rfl) (argsL := [(.ref a_TERMINATED), (.ref ax125)]) (rest := []) (lenOf pd_1 rfl) rfl (by show 2 * 0 + _ ≤ _; exact Nat.le_of_eq rfl) (hb hby d2_3) (fun _ _ => ⟨rfl, e1, (by decide : 2 + 0 ≤ _), (by decide : 20 + 0 ≤ _)⟩)
  dsimp only [Pt.U, Pt.locs, Pt.cells, Pt.slots] at X2 l2 y2 z2 st2 hQ2
  subst l2 y2 z2
  obtain ⟨rfl, Nq2, e2⟩ := hQ2
  have N2 := Fr.app N0 Nq2
  obtain ⟨ax126, T3, h3, kz3, X3, e3, E3, hS3, hk3, hZ3, hown3, st3⟩ := ldcS (s := s) (vm0 := T1.vm) X2 hx hZ1 hown1 (tw_44 hw) (own_strs hw) e2 hS1 hk1 (g := (mkF m 8 #[.val (.ref a_COMPLETED), .val (.ref a_TERMINATED), .val (.ref a_PROVIDER)] [(.ref a_PROVIDER)])) rfl (hb hby d2_8) (n := 8) (by decide) (by decide) (by decide) (by decide)
  have KK3 : Keep h0 h3 [] := KK1.ext E3
  -- pc 10: java/util/Objects.requireNonNull
  obtain ⟨_, _, ⟨T4, L4, k4, n4⟩, -, X4, ⟨Lc4, hQ4, l4, y4, z4⟩, st4⟩ := Jvm.LawKit.callS X3 hx (y := M_1) hown3 (mvT hZ3 (tw_40 hw)) (mvT hZ3 (tw_41 hw)) (mvT hZ3 (tw_42 hw)) (mvT hZ3 (tw_43 hw)) (by decide) (backOf (W := 0) (rm3_62 l Z a0 hw [] a_PROVIDER ax126 h3 n0 (Nat.le_trans Z0 KK3.1) ) hZ3 (tw_43 hw) (tw_42 hw) (by decide) (by decide)) (g := (mkF m 10 #[.val (.ref a_COMPLETED), .val (.ref a_TERMINATED), .val (.ref a_PROVIDER)] [(.ref ax126), (.ref a_PROVIDER)])) rfl (by rw [hml]; rfl) (argsL := [(.ref a_PROVIDER), (.ref ax126)]) (rest := []) (lenOf pd_1 rfl) rfl (by show 2 * 0 + _ ≤ _; exact Nat.le_of_eq rfl) (hb hby d2_10) (fun _ _ => ⟨rfl, e3, (by decide : 4 + 0 ≤ _), (by decide : 32 + 0 ≤ _)⟩)
  dsimp only [Pt.U, Pt.locs, Pt.cells, Pt.slots] at X4 l4 y4 z4 st4 hQ4
  subst l4 y4 z4
  obtain ⟨rfl, Nq4, e4⟩ := hQ4
  have N4 := Fr.app N2 Nq4
  -- pc 15: java/lang/Enum.ordinal
  have u5 : F_0 Z h1 a_TERMINATED (.int 4) := Fld.ext E1 f1
  have u6 : F_0 Z h3 a_TERMINATED (.int 4) := Fld.ext E3 u5
  have u8 : E_0 Z h1 a_TERMINATED := Exa.ext E1 f2
  have u9 : E_0 Z h3 a_TERMINATED := Exa.ext E3 u8
  obtain ⟨cq7, kq7, q7a, q7b, q7c⟩ := isOf hZ3 e4 u9
  obtain ⟨_, _, ⟨T7, L7, k7, n7⟩, -, X7, ⟨Lc7, hQ7, l7, y7, z7⟩, st7⟩ := X4.virtualBackUp hx (x := M_3) (y := M_2) (owner := "java/lang/Enum") hown3 (mvT hZ3 (tw_45 hw)) (mvT hZ3 (tw_46 hw)) (mvT hZ3 (tw_47 hw)) (by decide) (mvT hZ3 (tw_49 hw)) (mvT hZ3 (tw_48 hw)) (backOf (W := 0) (rm4_119 l Z a0 hw [] a_TERMINATED h3 n0 (Nat.le_trans Z0 KK3.1) u6) hZ3 (tw_51 hw) (tw_50 hw) (by decide) (by decide)) q7a q7c (g := (mkF m 15 #[.val (.ref a_COMPLETED), .val (.ref a_TERMINATED), .val (.ref a_PROVIDER)] [(.ref a_TERMINATED)])) rfl (by rw [hml]; rfl) (Steps.refl _) (argsL := []) (rest := []) (lenOf pd_2 rfl) rfl (by show 2 * 0 + _ ≤ _; exact Nat.le_of_eq rfl) (hb hby d2_15) (fun _ _ => ⟨rfl, e4, (by decide : 4 + 0 ≤ _), (by decide : 32 + 0 ≤ _)⟩)
  dsimp only [Pt.U, Pt.locs, Pt.cells, Pt.slots] at X7 l7 y7 z7 st7 hQ7
  subst l7 y7 z7
  obtain ⟨rfl, Nq7, e7⟩ := hQ7
  have N7 := Fr.app N4 Nq7
  -- pc 111: com/example/offer/offer/model/TransferState.isFinal
  have u10 : S_3 Z h1 (.ref a_COMPLETED) := Sta.ext E1 f3
  have u11 : S_3 Z h3 (.ref a_COMPLETED) := Sta.ext E3 u10
  have u13 : E_0 Z h1 a_COMPLETED := Exa.ext E1 f4
  have u14 : E_0 Z h3 a_COMPLETED := Exa.ext E3 u13
  obtain ⟨cq12, kq12, q12a, q12b, q12c⟩ := isOf hZ3 e7 u14
  obtain ⟨_, _, ⟨T12, L12, k12, n12⟩, -, X12, ⟨Lc12, hQ12, l12, y12, z12⟩, st12⟩ := X7.virtualBack hx (y := M_0) (z := M_0) hown3 (mvT hZ3 (tw_54 hw)) (mvT hZ3 (tw_19 hw)) (notFace_of_selects (args := #[]) (mvT hZ3 (tw_21 hw))) (mvT hZ3 (tw_21 hw)) (mvT hZ3 (tw_20 hw)) (by decide) (backOf (W := 0) (rm1_49 l Z a0 hw [] a_COMPLETED h3 n0 (Nat.le_trans Z0 KK3.1) u11) hZ3 (tw_22 hw) (tw_3 hw) (by decide) (by decide)) q12a q12c (g := (mkF m 111 #[.val (.ref a_COMPLETED), .val (.ref a_TERMINATED), .val (.ref a_PROVIDER)] [(.ref a_COMPLETED)])) rfl (by rw [hml]; rfl) (Steps.refl _) (argsL := []) (rest := []) (lenOf pd_0 rfl) rfl (by show 2 * 0 + _ ≤ _; exact Nat.le_of_eq rfl) (hb hby d2_111) (fun _ _ => ⟨rfl, e7, (by decide : 4 + 0 ≤ _), (by decide : 32 + 0 ≤ _)⟩)
  dsimp only [Pt.U, Pt.locs, Pt.cells, Pt.slots] at X12 l12 y12 z12 st12 hQ12
  subst l12 y12 z12
  obtain ⟨rfl, Nq12, e12⟩ := hQ12
  have N12 := Fr.app N7 Nq12
  obtain ⟨fs, hr, hrun, hended, hRE⟩ := X12.leaveW hS3 (by rw [e12]; exact hk3) (v := (some (.int 0))) (fun h => by rw [Bd.returns] at h; cases h)
  refine ⟨_, _, castTop (ef2_RRR m a_COMPLETED a_TERMINATED a_PROVIDER) ?_, hrun, hended, _, _, rfl, ?_, hRE.1, hRE.2.1, hRE.2.2.1, hRE.2.2.2.mono (by decide) (by decide)⟩
  · show Steps p.tables e below (s₁.setTop (mkF m 0 #[.val (.ref a_COMPLETED), .val (.ref a_TERMINATED), .val (.ref a_PROVIDER)] [])) _
    refine XS.aloadN X0.here hx rfl (hb hby d2_0) rfl rfl ?_
    show Steps p.tables e below (s₁.setTop (mkF m 1 #[.val (.ref a_COMPLETED), .val (.ref a_TERMINATED), .val (.ref a_PROVIDER)] [(.ref a_TERMINATED)])) _
    refine st1 _ ?_
    show Steps p.tables e below (T1.setTop (mkF m 3 #[.val (.ref a_COMPLETED), .val (.ref a_TERMINATED), .val (.ref a_PROVIDER)] [(.ref ax125), (.ref a_TERMINATED)])) _
    refine st2 _ ?_
    refine XS.pop X2.here hx rfl (hb hby d2_6) rfl rfl ?_
    refine XS.aloadN X2.here hx rfl (hb hby d2_7) rfl rfl ?_
    show Steps p.tables e below (T2.setTop (mkF m 8 #[.val (.ref a_COMPLETED), .val (.ref a_TERMINATED), .val (.ref a_PROVIDER)] [(.ref a_PROVIDER)])) _
    refine st3 _ ?_
    show Steps p.tables e below (T3.setTop (mkF m 10 #[.val (.ref a_COMPLETED), .val (.ref a_TERMINATED), .val (.ref a_PROVIDER)] [(.ref ax126), (.ref a_PROVIDER)])) _
    refine st4 _ ?_
    refine XS.pop X4.here hx rfl (hb hby d2_13) rfl rfl ?_
    refine XS.aloadN X4.here hx rfl (hb hby d2_14) rfl rfl ?_
    show Steps p.tables e below (T4.setTop (mkF m 15 #[.val (.ref a_COMPLETED), .val (.ref a_TERMINATED), .val (.ref a_PROVIDER)] [(.ref a_TERMINATED)])) _
    refine st7.trans ?_
    show Steps p.tables e below (T7.setTop (mkF m 18 #[.val (.ref a_COMPLETED), .val (.ref a_TERMINATED), .val (.ref a_PROVIDER)] [(.int 4)])) _
    refine XS.tswIn X7.here hx rfl (pc0 := 18) (pc' := 110) (o := 92) rfl (hb hby d2_18) rfl (by decide) (by decide) (by decide) (by decide) ?_
    refine XS.aloadN X7.here hx rfl (hb hby d2_110) rfl rfl ?_
    show Steps p.tables e below (T7.setTop (mkF m 111 #[.val (.ref a_COMPLETED), .val (.ref a_TERMINATED), .val (.ref a_PROVIDER)] [(.ref a_COMPLETED)])) _
    refine st12.trans ?_
    refine XS.ifYes X12.here hx rfl (pc0 := 114) (pc' := 121) rfl (hb hby d2_114) rfl (by decide) (by decide) (by decide) ?_
    refine XS.iconst X12.here hx rfl (hb hby d2_121) ?_
    show Steps p.tables e below (T12.setTop (mkF m 122 #[.val (.ref a_COMPLETED), .val (.ref a_TERMINATED), .val (.ref a_PROVIDER)] [(.int 0)])) _
    exact retN X12 hx (t := .boolean) Bd.returns (by simp) (hb hby d2_122) hr
  · show Q2_128 Z  h0 n0 _ T12.heap _
    rw [e12]
    exact ⟨rfl, N12, KK3⟩
set_option maxRecDepth 65536 in
set_option maxHeartbeats 40000000 in
theorem rm0_129 (l : Launch) (Z : State) (a0 : Array Value) (hw : ∀ d ∈ tables_1, d.before a0 Z = true) (ws : List Jvm.Cond) (p0 : Int32) (p1 : Int32) (p2 : Int32) (a_REQUESTED : Addr) (a_STARTED : Addr) (a_SUSPENDED : Addr) (a_COMPLETED : Addr) (a_TERMINATED : Addr) (a_PROVIDER : Addr) (h0 : Heap) (n0 : Nat) (Z0 : n0 ≤ h0.size) (f1 : S_0 Z h0 (.ref a_REQUESTED)) (f2 : E_0 Z h0 a_REQUESTED) (f3 : S_1 Z h0 (.ref a_STARTED)) (f4 : E_0 Z h0 a_STARTED) (f5 : S_2 Z h0 (.ref a_SUSPENDED)) (f6 : E_0 Z h0 a_SUSPENDED) (f7 : S_3 Z h0 (.ref a_COMPLETED)) (f8 : E_0 Z h0 a_COMPLETED) (f9 : S_4 Z h0 (.ref a_TERMINATED)) (f10 : E_0 Z h0 a_TERMINATED) (f11 : ((p0 &&& (2147483647 : Int32)) % (5 : Int32)) = (3 : Int32)) (f12 : ((p1 &&& (2147483647 : Int32)) % (5 : Int32)) = (4 : Int32)) (f13 : ¬ ((p2 &&& (1 : Int32)) = (0 : Int32))) (f14 : S_6 Z h0 (.ref a_PROVIDER)) (f15 : F_0 Z h0 a_TERMINATED (.int 4)) :
    MetFree l x (head1 (Jvm.Cond.code x code maxLocals ret :: ws) room_1) (fun a U => a = #[(.int p0), (.int p1), (.int p2)] ∧ Z.Warmed39 U.vm ∧ U.heap = h0) (fun _ _ _ _ _ => True) (fun _ U o U' => ∃ v L, o = .returned v ∧ QT n0 v U'.heap L ∧ ReturnedEndW U o U' L room_1.cells room_1.slots) := by
  refine MetFree.of_bodySF (plainFor_of_name pn_com_example_offer_offer_model_TransferStateIsFinalPinLaw) hisR ?_
  intro p e s m args below meth c s₁ Bd hml0 hP hK
  obtain ⟨rfl, hZ, hh⟩ := hP
  have hx := Bd.exec
  have hby := Bd.bytes
  have hml : c.maxLocals = 10 := hml0
  have hown : s.vm.findClass "com/example/offer/offer/model/TransferStateIsFinalPinLaw" = some m.cls := findClass_of_methodNamed Bd.named
  have hnm := (name_of_methodNamed Bd.named Bd.method).1
  have X0 : Stand p l e room_1 s m #[(.int p0), (.int p1), (.int p2)] below meth c s₁ [] 0 0 := Stand.of_body Bd
  have e0 : s₁.heap = h0 := by rw [← hh, Bd.state]; rfl
  have N0 := Fr.nil n0
  obtain ⟨T1, h1, L1, b123, kc124, X1, e1, N1, K1, le_b123, o1_0, o1_1, st1⟩ := sg0_25 p0 p1 p2 a_REQUESTED a_STARTED a_SUSPENDED a_COMPLETED a_TERMINATED X0 hx hZ hw hby hml hown e0 N0 Z0 f1 f2 f3 f4 f5 f6 f7 f8 f9 f10
  have sz_b123 : h0.size ≤ b123 := Nat.le_trans (Nat.le_refl _) le_b123
  have g_b123 : n0 ≤ b123 := Nat.le_trans Z0 sz_b123
  have KK1 : Keep h0 h1 [] := (Keep.refl h0 []).trans K1 (fun x hx => nomatch hx)
  have u2 : S_6 Z h1 (.ref a_PROVIDER) := own_sta_keep f14 K1 (fun _ q => nomatch q)
  obtain ⟨T3, X3, e3, st3⟩ := getS2 X1 hx hZ hown (host := "") (Or.inl (tw_25 hw)) Via.refl e1 u2 (g := (mkF m 57 #[.val (.int p0), .val (.int p1), .val (.int p2), .val (.ref b123), .val (.int 3), .val (.int 4), .unset, .unset, .unset, .unset] [])) rfl (hb hby at_57)
  have va4 := o1_0
  obtain ⟨cl4, Ar4, -, S4, -, H4, -⟩ := va4
  have hin4 : ¬ ((3 : Int32) < 0 ∨ cl4.slots.size ≤ ((3 : Int32)).toNatClampNeg) := inb_of S4 ⟨by decide, by decide⟩
  have hat4 : cl4.slots[((3 : Int32)).toNatClampNeg]? = some (.ref a_COMPLETED) := H4 _ (Nat.lt_of_not_le fun y => hin4 (Or.inr y))
  -- pc 76: com/example/offer/offer/model/TransferState.isFinal
  have u5 : S_3 Z h1 (.ref a_COMPLETED) := own_sta_keep f7 K1 (fun _ q => nomatch q)
  have u7 : E_0 Z h1 a_COMPLETED := Exa.keep f8 K1
  obtain ⟨cq6, kq6, q6a, q6b, q6c⟩ := isOf hZ e3 u7
  obtain ⟨_, _, ⟨T6, L6, k6, n6⟩, -, X6, ⟨Lc6, hQ6, l6, y6, z6⟩, st6⟩ := X3.virtualBack hx (y := M_0) (z := M_0) hown (mvT hZ (tw_18 hw)) (mvT hZ (tw_19 hw)) (notFace_of_selects (args := #[]) (mvT hZ (tw_21 hw))) (mvT hZ (tw_21 hw)) (mvT hZ (tw_20 hw)) (by decide) (backOf (W := 0) (rm1_49 l Z a0 hw [] a_COMPLETED h1 n0 (Nat.le_trans Z0 KK1.1) u5) hZ (tw_22 hw) (tw_3 hw) (by decide) (by decide)) q6a q6c (g := (mkF m 76 #[.val (.int p0), .val (.int p1), .val (.int p2), .val (.ref b123), .val (.int 3), .val (.int 4), .val (.ref a_PROVIDER), .val (.ref a_COMPLETED), .unset, .unset] [(.ref a_COMPLETED)])) rfl (by rw [hml]; rfl) (Steps.refl _) (argsL := []) (rest := []) (lenOf pd_0 rfl) rfl (by show 2 * 0 + _ ≤ _; exact Nat.le_of_eq rfl) (hb hby at_76) (fun _ _ => ⟨rfl, e3, (by decide : 1 + 0 ≤ _), (by decide : 5 + 0 ≤ _)⟩)
  dsimp only [Pt.U, Pt.locs, Pt.cells, Pt.slots] at X6 l6 y6 z6 st6 hQ6
  subst l6 y6 z6
  obtain ⟨rfl, Nq6, e6⟩ := hQ6
  have N6 := Fr.app N1 Nq6
  have va8 := o1_0
  obtain ⟨cl8, Ar8, -, S8, -, H8, -⟩ := va8
  have hin8 : ¬ ((4 : Int32) < 0 ∨ cl8.slots.size ≤ ((4 : Int32)).toNatClampNeg) := inb_of S8 ⟨by decide, by decide⟩
  have hat8 : cl8.slots[((4 : Int32)).toNatClampNeg]? = some (.ref a_TERMINATED) := H8 _ (Nat.lt_of_not_le fun y => hin8 (Or.inr y))
  -- pc 116: com/example/offer/offer/model/TransferState.canMoveTo
  have u9 : F_0 Z h1 a_TERMINATED (.int 4) := Fld.keep f15 K1 List.not_mem_nil
  have u10 : E_0 Z h1 a_TERMINATED := Exa.keep f10 K1
  obtain ⟨cq11, kq11, q11a, q11b, q11c⟩ := isOf hZ e6 u7
  obtain ⟨_, _, ⟨T11, L11, k11, n11⟩, -, X11, hS11, hg11, ⟨Lc11, hQ11, l11, y11, z11⟩, st11⟩ := X6.virtualBackS hx (y := M_4) (z := M_4) hown (mvT hZ (tw_27 hw)) (mvT hZ (tw_28 hw)) (notFace_of_selects (args := #[]) (mvT hZ (tw_30 hw))) (mvT hZ (tw_30 hw)) (mvT hZ (tw_29 hw)) (by decide) (backOfS (W := 0) (rm2_127 l Z a0 hw [] a_COMPLETED a_TERMINATED a_PROVIDER h1 n0 (Nat.le_trans Z0 KK1.1) u9 u10 u5 u7) hZ (tw_31 hw) (tw_3 hw) (by decide) (by decide)) q11a q11c (g := (mkF m 116 #[.val (.int p0), .val (.int p1), .val (.int p2), .val (.ref b123), .val (.int 3), .val (.int 4), .val (.ref a_PROVIDER), .val (.ref a_COMPLETED), .val (.int 1), .val (.int 1)] [(.ref a_PROVIDER), (.ref a_TERMINATED), (.ref a_COMPLETED)])) rfl (by rw [hml]; rfl) (Steps.refl _) (argsL := [(.ref a_TERMINATED), (.ref a_PROVIDER)]) (rest := []) (lenOf pd_3 rfl) rfl (by show 2 * 0 + _ ≤ _; exact Nat.le_of_eq rfl) (hb hby at_116) (fun _ _ => ⟨rfl, e6, (by decide : 1 + 4 ≤ _), (by decide : 5 + 32 ≤ _)⟩)
  dsimp only [Pt.U, Pt.locs, Pt.cells, Pt.slots] at X11 l11 y11 z11 st11 hQ11 hS11 hg11
  subst l11 y11 z11
  have hZ11 : Z.Warmed39 (s.setVm T11.vm).vm := State.Warmed39.trans hZ hS11.1
  have hown11 : (s.setVm T11.vm).vm.findClass "com/example/offer/offer/model/TransferStateIsFinalPinLaw" = some m.cls := by rw [show (s.setVm T11.vm).vm = T11.vm from rfl, hS11.1.alike.findClass]; exact hown
  obtain ⟨rfl, Nq11, K11⟩ := hQ11
  have N11 := Fr.app N6 Nq11
  have KK11 : Keep h0 T11.heap [] := KK1.trans K11 (fun x hx => nomatch hx)
  obtain ⟨fs, hr, hrun, hended, hRE⟩ := X11.leaveW hS11 (by exact (Nat.le_refl _)) (v := (some (.int 1))) (fun h => by rw [Bd.returns] at h; cases h)
  refine ⟨_, _, castTop (ef0_III m p0 p1 p2) ?_, hrun, hended, _, _, rfl, ?_, hRE.1, hRE.2.1, hRE.2.2.1, hRE.2.2.2.mono (by decide) (by decide)⟩
  · show Steps p.tables e below (s₁.setTop (mkF m 0 #[.val (.int p0), .val (.int p1), .val (.int p2), .unset, .unset, .unset, .unset, .unset, .unset, .unset] [])) _
    refine st1 _ ?_
    refine XS.iloadN X1.here hx rfl (hb hby at_35) rfl ?_
    show Steps p.tables e below (T1.setTop (mkF m 36 #[.val (.int p0), .val (.int p1), .val (.int p2), .val (.ref b123), .unset, .unset, .unset, .unset, .unset, .unset] [(.int p0)])) _
    refine X1.ldcInt hx hown (mvT hZ (tw_14 hw)) (g := (mkF m 36 #[.val (.int p0), .val (.int p1), .val (.int p2), .val (.ref b123), .unset, .unset, .unset, .unset, .unset, .unset] [(.int p0)])) rfl (hb hby at_36) _ ?_
    show Steps p.tables e below (T1.setTop (mkF m 38 #[.val (.int p0), .val (.int p1), .val (.int p2), .val (.ref b123), .unset, .unset, .unset, .unset, .unset, .unset] [(.int 2147483647), (.int p0)])) _
    refine XS.iand X1.here hx rfl (hb hby at_38) rfl ?_
    refine XS.iconst X1.here hx rfl (hb hby at_39) ?_
    show Steps p.tables e below (T1.setTop (mkF m 40 #[.val (.int p0), .val (.int p1), .val (.int p2), .val (.ref b123), .unset, .unset, .unset, .unset, .unset, .unset] [(.int 5), (.int (p0 &&& (2147483647 : Int32)))])) _
    refine iremM X1 hx rfl (hb hby at_40) rfl (by decide) ?_
    show Steps p.tables e below (T1.setTop (mkF m 41 #[.val (.int p0), .val (.int p1), .val (.int p2), .val (.ref b123), .unset, .unset, .unset, .unset, .unset, .unset] [(.int ((p0 &&& (2147483647 : Int32)) % (5 : Int32)))])) _
    rw [f11]
    refine XS.istore X1.here hx rfl (hb hby at_41) rfl (l' := #[.val (.int p0), .val (.int p1), .val (.int p2), .val (.ref b123), .val (.int 3), .unset, .unset, .unset, .unset, .unset]) rfl ?_
    refine XS.iloadN X1.here hx rfl (hb hby at_43) rfl ?_
    show Steps p.tables e below (T1.setTop (mkF m 44 #[.val (.int p0), .val (.int p1), .val (.int p2), .val (.ref b123), .val (.int 3), .unset, .unset, .unset, .unset, .unset] [(.int p1)])) _
    refine X1.ldcInt hx hown (mvT hZ (tw_14 hw)) (g := (mkF m 44 #[.val (.int p0), .val (.int p1), .val (.int p2), .val (.ref b123), .val (.int 3), .unset, .unset, .unset, .unset, .unset] [(.int p1)])) rfl (hb hby at_44) _ ?_
    show Steps p.tables e below (T1.setTop (mkF m 46 #[.val (.int p0), .val (.int p1), .val (.int p2), .val (.ref b123), .val (.int 3), .unset, .unset, .unset, .unset, .unset] [(.int 2147483647), (.int p1)])) _
    refine XS.iand X1.here hx rfl (hb hby at_46) rfl ?_
    refine XS.iconst X1.here hx rfl (hb hby at_47) ?_
    show Steps p.tables e below (T1.setTop (mkF m 48 #[.val (.int p0), .val (.int p1), .val (.int p2), .val (.ref b123), .val (.int 3), .unset, .unset, .unset, .unset, .unset] [(.int 5), (.int (p1 &&& (2147483647 : Int32)))])) _
    refine iremM X1 hx rfl (hb hby at_48) rfl (by decide) ?_
    show Steps p.tables e below (T1.setTop (mkF m 49 #[.val (.int p0), .val (.int p1), .val (.int p2), .val (.ref b123), .val (.int 3), .unset, .unset, .unset, .unset, .unset] [(.int ((p1 &&& (2147483647 : Int32)) % (5 : Int32)))])) _
    rw [f12]
    refine XS.istore X1.here hx rfl (hb hby at_49) rfl (l' := #[.val (.int p0), .val (.int p1), .val (.int p2), .val (.ref b123), .val (.int 3), .val (.int 4), .unset, .unset, .unset, .unset]) rfl ?_
    refine XS.iloadN X1.here hx rfl (hb hby at_51) rfl ?_
    refine XS.iconst X1.here hx rfl (hb hby at_52) ?_
    show Steps p.tables e below (T1.setTop (mkF m 53 #[.val (.int p0), .val (.int p1), .val (.int p2), .val (.ref b123), .val (.int 3), .val (.int 4), .unset, .unset, .unset, .unset] [(.int 1), (.int p2)])) _
    refine XS.iand X1.here hx rfl (hb hby at_53) rfl ?_
    refine XS.ifNo X1.here hx rfl (hb hby at_54) rfl ((if0 _ _).trans (feq (f13 : ¬ ((p2 &&& (1 : Int32)) = (0 : Int32)))).1) ?_
    show Steps p.tables e below (T1.setTop (mkF m 57 #[.val (.int p0), .val (.int p1), .val (.int p2), .val (.ref b123), .val (.int 3), .val (.int 4), .unset, .unset, .unset, .unset] [])) _
    refine st3 _ ?_
    refine XS.goto X3.here hx rfl (pc0 := 60) (pc' := 66) rfl (hb hby at_60) (by decide) (by decide) ?_
    refine XS.astore X3.here hx rfl (hb hby at_66) rfl rfl (l' := #[.val (.int p0), .val (.int p1), .val (.int p2), .val (.ref b123), .val (.int 3), .val (.int 4), .val (.ref a_PROVIDER), .unset, .unset, .unset]) rfl ?_
    refine XS.aloadN X3.here hx rfl (hb hby at_68) rfl rfl ?_
    refine XS.iload X3.here hx rfl (hb hby at_69) rfl ?_
    show Steps p.tables e below (T3.setTop (mkF m 71 #[.val (.int p0), .val (.int p1), .val (.int p2), .val (.ref b123), .val (.int 3), .val (.int 4), .val (.ref a_PROVIDER), .unset, .unset, .unset] [(.int 3), (.ref b123)])) _
    refine X3.aaload hx (j := (3 : Int32)) (v := (.ref a_COMPLETED)) (by rw [e3]; exact Ar4.1) (State.isArrayOf_alike hZ.alike Ar4.2.1) rfl Ar4.2.2 hin4 hat4 (g := (mkF m 71 #[.val (.int p0), .val (.int p1), .val (.int p2), .val (.ref b123), .val (.int 3), .val (.int 4), .val (.ref a_PROVIDER), .unset, .unset, .unset] [(.int 3), (.ref b123)])) rfl rfl (hb hby at_71) _ ?_
    refine XS.astore X3.here hx rfl (hb hby at_72) rfl rfl (l' := #[.val (.int p0), .val (.int p1), .val (.int p2), .val (.ref b123), .val (.int 3), .val (.int 4), .val (.ref a_PROVIDER), .val (.ref a_COMPLETED), .unset, .unset]) rfl ?_
    refine XS.aload X3.here hx rfl (hb hby at_74) rfl rfl ?_
    show Steps p.tables e below (T3.setTop (mkF m 76 #[.val (.int p0), .val (.int p1), .val (.int p2), .val (.ref b123), .val (.int 3), .val (.int 4), .val (.ref a_PROVIDER), .val (.ref a_COMPLETED), .unset, .unset] [(.ref a_COMPLETED)])) _
    refine st6.trans ?_
    refine XS.istore X6.here hx rfl (hb hby at_79) rfl (l' := #[.val (.int p0), .val (.int p1), .val (.int p2), .val (.ref b123), .val (.int 3), .val (.int 4), .val (.ref a_PROVIDER), .val (.ref a_COMPLETED), .val (.int 1), .unset]) rfl ?_
    refine XS.iload X6.here hx rfl (hb hby at_81) rfl ?_
    refine XS.iconst X6.here hx rfl (hb hby at_83) ?_
    refine XS.icmpNo X6.here hx rfl (hb hby at_84) rfl (by decide) ?_
    show Steps p.tables e below (T6.setTop (mkF m 87 #[.val (.int p0), .val (.int p1), .val (.int p2), .val (.ref b123), .val (.int 3), .val (.int 4), .val (.ref a_PROVIDER), .val (.ref a_COMPLETED), .val (.int 1), .unset] [])) _
    refine XS.iconst X6.here hx rfl (hb hby at_87) ?_
    refine XS.goto X6.here hx rfl (pc0 := 88) (pc' := 92) rfl (hb hby at_88) (by decide) (by decide) ?_
    refine XS.istore X6.here hx rfl (hb hby at_92) rfl (l' := #[.val (.int p0), .val (.int p1), .val (.int p2), .val (.ref b123), .val (.int 3), .val (.int 4), .val (.ref a_PROVIDER), .val (.ref a_COMPLETED), .val (.int 1), .val (.int 1)]) rfl ?_
    refine XS.iload X6.here hx rfl (hb hby at_94) rfl ?_
    refine XS.iload X6.here hx rfl (hb hby at_96) rfl ?_
    show Steps p.tables e below (T6.setTop (mkF m 98 #[.val (.int p0), .val (.int p1), .val (.int p2), .val (.ref b123), .val (.int 3), .val (.int 4), .val (.ref a_PROVIDER), .val (.ref a_COMPLETED), .val (.int 1), .val (.int 1)] [(.int 1), (.int 1)])) _
    refine XS.icmpYes X6.here hx rfl (pc0 := 98) (pc' := 103) rfl (hb hby at_98) rfl (by decide) (by decide) (by decide) ?_
    refine XS.iload X6.here hx rfl (hb hby at_103) rfl ?_
    refine XS.ifNo X6.here hx rfl (hb hby at_105) rfl (by decide) ?_
    refine XS.aload X6.here hx rfl (hb hby at_108) rfl rfl ?_
    refine XS.aloadN X6.here hx rfl (hb hby at_110) rfl rfl ?_
    show Steps p.tables e below (T6.setTop (mkF m 111 #[.val (.int p0), .val (.int p1), .val (.int p2), .val (.ref b123), .val (.int 3), .val (.int 4), .val (.ref a_PROVIDER), .val (.ref a_COMPLETED), .val (.int 1), .val (.int 1)] [(.ref b123), (.ref a_COMPLETED)])) _
    refine XS.iload X6.here hx rfl (hb hby at_111) rfl ?_
    show Steps p.tables e below (T6.setTop (mkF m 113 #[.val (.int p0), .val (.int p1), .val (.int p2), .val (.ref b123), .val (.int 3), .val (.int 4), .val (.ref a_PROVIDER), .val (.ref a_COMPLETED), .val (.int 1), .val (.int 1)] [(.int 4), (.ref b123), (.ref a_COMPLETED)])) _
    refine X6.aaload hx (j := (4 : Int32)) (v := (.ref a_TERMINATED)) (by rw [e6]; exact Ar8.1) (State.isArrayOf_alike hZ.alike Ar8.2.1) rfl Ar8.2.2 hin8 hat8 (g := (mkF m 113 #[.val (.int p0), .val (.int p1), .val (.int p2), .val (.ref b123), .val (.int 3), .val (.int 4), .val (.ref a_PROVIDER), .val (.ref a_COMPLETED), .val (.int 1), .val (.int 1)] [(.int 4), (.ref b123), (.ref a_COMPLETED)])) rfl rfl (hb hby at_113) _ ?_
    refine XS.aload X6.here hx rfl (hb hby at_114) rfl rfl ?_
    show Steps p.tables e below (T6.setTop (mkF m 116 #[.val (.int p0), .val (.int p1), .val (.int p2), .val (.ref b123), .val (.int 3), .val (.int 4), .val (.ref a_PROVIDER), .val (.ref a_COMPLETED), .val (.int 1), .val (.int 1)] [(.ref a_PROVIDER), (.ref a_TERMINATED), (.ref a_COMPLETED)])) _
    refine st11.trans ?_
    refine XS.ifYes X11.here hx rfl (pc0 := 119) (pc' := 124) rfl (hb hby at_119) rfl (by decide) (by decide) (by decide) ?_
    refine XS.iconst X11.here hx rfl (hb hby at_124) ?_
    show Steps p.tables e below (T11.setTop (mkF m 125 #[.val (.int p0), .val (.int p1), .val (.int p2), .val (.ref b123), .val (.int 3), .val (.int 4), .val (.ref a_PROVIDER), .val (.ref a_COMPLETED), .val (.int 1), .val (.int 1)] [(.int 1)])) _
    exact retN X11 hx (t := .boolean) Bd.returns (by simp) (hb hby at_125) hr
  · show QT n0 _ T11.heap _
    exact ⟨rfl, N11⟩
set_option maxRecDepth 65536 in
set_option maxHeartbeats 40000000 in
theorem rm1_132 (l : Launch) (Z : State) (a0 : Array Value) (hw : ∀ d ∈ tables_1, d.before a0 Z = true) (ws : List Jvm.Cond) (a_TERMINATED : Addr) (a_COMPLETED : Addr) (h0 : Heap) (n0 : Nat) (Z0 : n0 ≤ h0.size) (f1 : S_3 Z h0 (.ref a_COMPLETED)) (f2 : a_COMPLETED ≠ a_TERMINATED) (f3 : S_4 Z h0 (.ref a_TERMINATED)) :
    MetFree l M_0 (head1 (Jvm.Cond.code M_0 prog_6_method_4_code 1 (some .boolean) :: ws) R_0_0_0_0) (fun a U => a = #[(.ref a_TERMINATED)] ∧ Z.Warmed39 U.vm ∧ U.heap = h0) (fun _ _ _ _ _ => True) (fun _ U o U' => ∃ v L, o = .returned v ∧ QP (some (.int 1)) h0 n0 v U'.heap L ∧ FrameEnd U o U' L R_0_0_0_0.cells R_0_0_0_0.slots) := by
  refine MetFree.of_bodySF (plainFor_of_name pn_com_example_offer_offer_model_TransferState) hisR ?_
  intro p e s m args below meth c s₁ Bd hml0 hP hK
  obtain ⟨rfl, hZ, hh⟩ := hP
  have hx := Bd.exec
  have hby := Bd.bytes
  have hml : c.maxLocals = 1 := hml0
  have hown : s.vm.findClass "com/example/offer/offer/model/TransferState" = some m.cls := findClass_of_methodNamed Bd.named
  have hnm := (name_of_methodNamed Bd.named Bd.method).1
  have X0 : Stand p l e R_0_0_0_0 s m #[(.ref a_TERMINATED)] below meth c s₁ [] 0 0 := Stand.of_body Bd
  have e0 : s₁.heap = h0 := by rw [← hh, Bd.state]; rfl
  have N0 := Fr.nil n0
  obtain ⟨T1, X1, e1, st1⟩ := getS2 X0 hx hZ hown (host := "") (Or.inl (tw_23 hw)) Via.refl e0 f1 (g := (mkF m 1 #[.val (.ref a_TERMINATED)] [(.ref a_TERMINATED)])) rfl (hb hby d1_1)
  obtain ⟨T2, X2, e2, st2⟩ := getS2 X1 hx hZ hown (host := "") (Or.inl (tw_24 hw)) Via.refl e1 f3 (g := (mkF m 8 #[.val (.ref a_TERMINATED)] [(.ref a_TERMINATED)])) rfl (hb hby d1_8)
  obtain ⟨fs, hr, hrun, hended, hW, hsame⟩ := X2.leave (v := (some (.int 1))) (fun h => by rw [Bd.returns] at h; cases h)
  refine ⟨_, _, castTop (ef1_R m a_TERMINATED) ?_, hrun, hended, _, _, rfl, ?_, ⟨_, rfl⟩, hW, hsame.mono (by decide) (by decide)⟩
  · show Steps p.tables e below (s₁.setTop (mkF m 0 #[.val (.ref a_TERMINATED)] [])) _
    refine XS.aloadN X0.here hx rfl (hb hby d1_0) rfl rfl ?_
    show Steps p.tables e below (s₁.setTop (mkF m 1 #[.val (.ref a_TERMINATED)] [(.ref a_TERMINATED)])) _
    refine st1 _ ?_
    show Steps p.tables e below (T1.setTop (mkF m 4 #[.val (.ref a_TERMINATED)] [(.ref a_COMPLETED), (.ref a_TERMINATED)])) _
    refine Jvm.RoadKit.acmp (g := (mkF m 4 #[.val (.ref a_TERMINATED)] [(.ref a_COMPLETED), (.ref a_TERMINATED)])) X1 hx rfl rfl rfl (pc0 := 4) (pc' := 7) (same := false) rfl (hb hby d1_4) rfl (decide_eq_false fun q => (Ne.symm f2) (Value.ref.inj q)) (by decide) (by decide) ?_
    refine XS.aloadN X1.here hx rfl (hb hby d1_7) rfl rfl ?_
    show Steps p.tables e below (T1.setTop (mkF m 8 #[.val (.ref a_TERMINATED)] [(.ref a_TERMINATED)])) _
    refine st2 _ ?_
    show Steps p.tables e below (T2.setTop (mkF m 11 #[.val (.ref a_TERMINATED)] [(.ref a_TERMINATED), (.ref a_TERMINATED)])) _
    refine Jvm.RoadKit.acmp (g := (mkF m 11 #[.val (.ref a_TERMINATED)] [(.ref a_TERMINATED), (.ref a_TERMINATED)])) X2 hx rfl rfl rfl (pc0 := 11) (pc' := 14) (same := true) rfl (hb hby d1_11) rfl (decide_eq_true rfl) (by decide) (by decide) ?_
    refine XS.iconst X2.here hx rfl (hb hby d1_14) ?_
    refine XS.goto X2.here hx rfl (pc0 := 15) (pc' := 19) rfl (hb hby d1_15) (by decide) (by decide) ?_
    show Steps p.tables e below (T2.setTop (mkF m 19 #[.val (.ref a_TERMINATED)] [(.int 1)])) _
    exact retN X2 hx (t := .boolean) Bd.returns (by simp) (hb hby d1_19) hr
  · show QP (some (.int 1)) h0 n0 _ T2.heap _
    rw [e2]
    exact ⟨rfl, N0, rfl⟩
def Q2_136 (Z : State)  (h0 : Heap) (n0 : Nat) (v : Option Value) (h : Heap) (L : List Loc) : Prop := v = (some (.int 0)) ∧ Fr n0 L ∧ Keep h0 h []
set_option maxRecDepth 65536 in
set_option maxHeartbeats 40000000 in
theorem rm2_135 (l : Launch) (Z : State) (a0 : Array Value) (hw : ∀ d ∈ tables_1, d.before a0 Z = true) (ws : List Jvm.Cond) (a_TERMINATED : Addr) (a_REQUESTED : Addr) (a_CONSUMER : Addr) (h0 : Heap) (n0 : Nat) (Z0 : n0 ≤ h0.size) (f1 : F_0 Z h0 a_REQUESTED (.int 0)) (f2 : E_0 Z h0 a_REQUESTED) :
    MetFree l M_4 (head1 (Jvm.Cond.code M_4 prog_6_method_5_code 3 (some .boolean) :: ws) R_1_4_32_13) (fun a U => a = #[(.ref a_TERMINATED), (.ref a_REQUESTED), (.ref a_CONSUMER)] ∧ Z.Warmed39 U.vm ∧ U.heap = h0) (fun _ _ _ _ _ => True) (fun _ U o U' => ∃ v L, o = .returned v ∧ Q2_136 Z  h0 n0 v U'.heap L ∧ ReturnedEndW U o U' L R_1_4_32_13.cells R_1_4_32_13.slots) := by
  refine MetFree.of_bodySF (plainFor_of_name pn_com_example_offer_offer_model_TransferState) hisR ?_
  intro p e s m args below meth c s₁ Bd hml0 hP hK
  obtain ⟨rfl, hZ, hh⟩ := hP
  have hx := Bd.exec
  have hby := Bd.bytes
  have hml : c.maxLocals = 3 := hml0
  have hown : s.vm.findClass "com/example/offer/offer/model/TransferState" = some m.cls := findClass_of_methodNamed Bd.named
  have hnm := (name_of_methodNamed Bd.named Bd.method).1
  have X0 : Stand p l e R_1_4_32_13 s m #[(.ref a_TERMINATED), (.ref a_REQUESTED), (.ref a_CONSUMER)] below meth c s₁ [] 0 0 := Stand.of_body Bd
  have e0 : s₁.heap = h0 := by rw [← hh, Bd.state]; rfl
  have N0 := Fr.nil n0
  obtain ⟨ax133, T1, h1, kz1, X1, e1, E1, hS1, hk1, hZ1, hown1, st1⟩ := ldcS (s := s) (vm0 := s.vm) X0 hx hZ hown (tw_32 hw) (own_strs hw) e0 ((State.WarmedH.refl s).since 0) (Nat.zero_le _) (g := (mkF m 1 #[.val (.ref a_TERMINATED), .val (.ref a_REQUESTED), .val (.ref a_CONSUMER)] [(.ref a_REQUESTED)])) rfl (hb hby d2_1) (n := 16) (by decide) (by decide) (by decide) (by decide)
  have KK1 : Keep h0 h1 [] := (Keep.refl h0 []).ext E1
  -- pc 3: java/util/Objects.requireNonNull
  obtain ⟨_, _, ⟨T2, L2, k2, n2⟩, -, X2, ⟨Lc2, hQ2, l2, y2, z2⟩, st2⟩ := Jvm.LawKit.callS X1 hx (y := M_1) hown1 (mvT hZ1 (tw_40 hw)) (mvT hZ1 (tw_41 hw)) (mvT hZ1 (tw_42 hw)) (mvT hZ1 (tw_43 hw)) (by decide) (backOf (W := 0) (rm3_51 l Z a0 hw [] a_REQUESTED ax133 h1 n0 (Nat.le_trans Z0 KK1.1) ) hZ1 (tw_43 hw) (tw_42 hw) (by decide) (by decide)) (g := (mkF m 3 #[.val (.ref a_TERMINATED), .val (.ref a_REQUESTED), .val (.ref a_CONSUMER)] [(.ref ax133), (.ref a_REQUESTED)])) rfl (by rw [hml]; rfl) (argsL := [(.ref a_REQUESTED), (.ref ax133)]) (rest := []) (lenOf pd_1 rfl) rfl (by show 2 * 0 + _ ≤ _; exact Nat.le_of_eq rfl) (hb hby d2_3) (fun _ _ => ⟨rfl, e1, (by decide : 2 + 0 ≤ _), (by decide : 20 + 0 ≤ _)⟩)
  dsimp only [Pt.U, Pt.locs, Pt.cells, Pt.slots] at X2 l2 y2 z2 st2 hQ2
  subst l2 y2 z2
  obtain ⟨rfl, Nq2, e2⟩ := hQ2
  have N2 := Fr.app N0 Nq2
  obtain ⟨ax134, T3, h3, kz3, X3, e3, E3, hS3, hk3, hZ3, hown3, st3⟩ := ldcS (s := s) (vm0 := T1.vm) X2 hx hZ1 hown1 (tw_44 hw) (own_strs hw) e2 hS1 hk1 (g := (mkF m 8 #[.val (.ref a_TERMINATED), .val (.ref a_REQUESTED), .val (.ref a_CONSUMER)] [(.ref a_CONSUMER)])) rfl (hb hby d2_8) (n := 8) (by decide) (by decide) (by decide) (by decide)
  have KK3 : Keep h0 h3 [] := KK1.ext E3
  -- pc 10: java/util/Objects.requireNonNull
  obtain ⟨_, _, ⟨T4, L4, k4, n4⟩, -, X4, ⟨Lc4, hQ4, l4, y4, z4⟩, st4⟩ := Jvm.LawKit.callS X3 hx (y := M_1) hown3 (mvT hZ3 (tw_40 hw)) (mvT hZ3 (tw_41 hw)) (mvT hZ3 (tw_42 hw)) (mvT hZ3 (tw_43 hw)) (by decide) (backOf (W := 0) (rm3_53 l Z a0 hw [] a_CONSUMER ax134 h3 n0 (Nat.le_trans Z0 KK3.1) ) hZ3 (tw_43 hw) (tw_42 hw) (by decide) (by decide)) (g := (mkF m 10 #[.val (.ref a_TERMINATED), .val (.ref a_REQUESTED), .val (.ref a_CONSUMER)] [(.ref ax134), (.ref a_CONSUMER)])) rfl (by rw [hml]; rfl) (argsL := [(.ref a_CONSUMER), (.ref ax134)]) (rest := []) (lenOf pd_1 rfl) rfl (by show 2 * 0 + _ ≤ _; exact Nat.le_of_eq rfl) (hb hby d2_10) (fun _ _ => ⟨rfl, e3, (by decide : 4 + 0 ≤ _), (by decide : 32 + 0 ≤ _)⟩)
  dsimp only [Pt.U, Pt.locs, Pt.cells, Pt.slots] at X4 l4 y4 z4 st4 hQ4
  subst l4 y4 z4
  obtain ⟨rfl, Nq4, e4⟩ := hQ4
  have N4 := Fr.app N2 Nq4
  -- pc 15: java/lang/Enum.ordinal
  have u5 : F_0 Z h1 a_REQUESTED (.int 0) := Fld.ext E1 f1
  have u6 : F_0 Z h3 a_REQUESTED (.int 0) := Fld.ext E3 u5
  have u8 : E_0 Z h1 a_REQUESTED := Exa.ext E1 f2
  have u9 : E_0 Z h3 a_REQUESTED := Exa.ext E3 u8
  obtain ⟨cq7, kq7, q7a, q7b, q7c⟩ := isOf hZ3 e4 u9
  obtain ⟨_, _, ⟨T7, L7, k7, n7⟩, -, X7, ⟨Lc7, hQ7, l7, y7, z7⟩, st7⟩ := X4.virtualBackUp hx (x := M_3) (y := M_2) (owner := "java/lang/Enum") hown3 (mvT hZ3 (tw_45 hw)) (mvT hZ3 (tw_46 hw)) (mvT hZ3 (tw_47 hw)) (by decide) (mvT hZ3 (tw_49 hw)) (mvT hZ3 (tw_48 hw)) (backOf (W := 0) (rm4_54 l Z a0 hw [] a_REQUESTED h3 n0 (Nat.le_trans Z0 KK3.1) u6) hZ3 (tw_51 hw) (tw_50 hw) (by decide) (by decide)) q7a q7c (g := (mkF m 15 #[.val (.ref a_TERMINATED), .val (.ref a_REQUESTED), .val (.ref a_CONSUMER)] [(.ref a_REQUESTED)])) rfl (by rw [hml]; rfl) (Steps.refl _) (argsL := []) (rest := []) (lenOf pd_2 rfl) rfl (by show 2 * 0 + _ ≤ _; exact Nat.le_of_eq rfl) (hb hby d2_15) (fun _ _ => ⟨rfl, e4, (by decide : 4 + 0 ≤ _), (by decide : 32 + 0 ≤ _)⟩)
  dsimp only [Pt.U, Pt.locs, Pt.cells, Pt.slots] at X7 l7 y7 z7 st7 hQ7
  subst l7 y7 z7
  obtain ⟨rfl, Nq7, e7⟩ := hQ7
  have N7 := Fr.app N4 Nq7
  obtain ⟨fs, hr, hrun, hended, hRE⟩ := X7.leaveW hS3 (by rw [e7]; exact hk3) (v := (some (.int 0))) (fun h => by rw [Bd.returns] at h; cases h)
  refine ⟨_, _, castTop (ef2_RRR m a_TERMINATED a_REQUESTED a_CONSUMER) ?_, hrun, hended, _, _, rfl, ?_, hRE.1, hRE.2.1, hRE.2.2.1, hRE.2.2.2.mono (by decide) (by decide)⟩
  · show Steps p.tables e below (s₁.setTop (mkF m 0 #[.val (.ref a_TERMINATED), .val (.ref a_REQUESTED), .val (.ref a_CONSUMER)] [])) _
    refine XS.aloadN X0.here hx rfl (hb hby d2_0) rfl rfl ?_
    show Steps p.tables e below (s₁.setTop (mkF m 1 #[.val (.ref a_TERMINATED), .val (.ref a_REQUESTED), .val (.ref a_CONSUMER)] [(.ref a_REQUESTED)])) _
    refine st1 _ ?_
    show Steps p.tables e below (T1.setTop (mkF m 3 #[.val (.ref a_TERMINATED), .val (.ref a_REQUESTED), .val (.ref a_CONSUMER)] [(.ref ax133), (.ref a_REQUESTED)])) _
    refine st2 _ ?_
    refine XS.pop X2.here hx rfl (hb hby d2_6) rfl rfl ?_
    refine XS.aloadN X2.here hx rfl (hb hby d2_7) rfl rfl ?_
    show Steps p.tables e below (T2.setTop (mkF m 8 #[.val (.ref a_TERMINATED), .val (.ref a_REQUESTED), .val (.ref a_CONSUMER)] [(.ref a_CONSUMER)])) _
    refine st3 _ ?_
    show Steps p.tables e below (T3.setTop (mkF m 10 #[.val (.ref a_TERMINATED), .val (.ref a_REQUESTED), .val (.ref a_CONSUMER)] [(.ref ax134), (.ref a_CONSUMER)])) _
    refine st4 _ ?_
    refine XS.pop X4.here hx rfl (hb hby d2_13) rfl rfl ?_
    refine XS.aloadN X4.here hx rfl (hb hby d2_14) rfl rfl ?_
    show Steps p.tables e below (T4.setTop (mkF m 15 #[.val (.ref a_TERMINATED), .val (.ref a_REQUESTED), .val (.ref a_CONSUMER)] [(.ref a_REQUESTED)])) _
    refine st7.trans ?_
    show Steps p.tables e below (T7.setTop (mkF m 18 #[.val (.ref a_TERMINATED), .val (.ref a_REQUESTED), .val (.ref a_CONSUMER)] [(.int 0)])) _
    refine XS.tswIn X7.here hx rfl (pc0 := 18) (pc' := 62) (o := 44) rfl (hb hby d2_18) rfl (by decide) (by decide) (by decide) (by decide) ?_
    refine XS.iconst X7.here hx rfl (hb hby d2_62) ?_
    refine XS.goto X7.here hx rfl (pc0 := 63) (pc' := 122) rfl (hb hby d2_63) (by decide) (by decide) ?_
    show Steps p.tables e below (T7.setTop (mkF m 122 #[.val (.ref a_TERMINATED), .val (.ref a_REQUESTED), .val (.ref a_CONSUMER)] [(.int 0)])) _
    exact retN X7 hx (t := .boolean) Bd.returns (by simp) (hb hby d2_122) hr
  · show Q2_136 Z  h0 n0 _ T7.heap _
    rw [e7]
    exact ⟨rfl, N7, KK3⟩
set_option maxRecDepth 65536 in
set_option maxHeartbeats 40000000 in
theorem rm0_137 (l : Launch) (Z : State) (a0 : Array Value) (hw : ∀ d ∈ tables_1, d.before a0 Z = true) (ws : List Jvm.Cond) (p0 : Int32) (p1 : Int32) (p2 : Int32) (a_REQUESTED : Addr) (a_STARTED : Addr) (a_SUSPENDED : Addr) (a_COMPLETED : Addr) (a_TERMINATED : Addr) (a_CONSUMER : Addr) (h0 : Heap) (n0 : Nat) (Z0 : n0 ≤ h0.size) (f1 : S_0 Z h0 (.ref a_REQUESTED)) (f2 : E_0 Z h0 a_REQUESTED) (f3 : S_1 Z h0 (.ref a_STARTED)) (f4 : E_0 Z h0 a_STARTED) (f5 : S_2 Z h0 (.ref a_SUSPENDED)) (f6 : E_0 Z h0 a_SUSPENDED) (f7 : S_3 Z h0 (.ref a_COMPLETED)) (f8 : E_0 Z h0 a_COMPLETED) (f9 : S_4 Z h0 (.ref a_TERMINATED)) (f10 : E_0 Z h0 a_TERMINATED) (f11 : ((p0 &&& (2147483647 : Int32)) % (5 : Int32)) = (4 : Int32)) (f12 : ((p1 &&& (2147483647 : Int32)) % (5 : Int32)) = (0 : Int32)) (f13 : (p2 &&& (1 : Int32)) = (0 : Int32)) (f14 : S_5 Z h0 (.ref a_CONSUMER)) (f15 : a_COMPLETED ≠ a_TERMINATED) (f16 : F_0 Z h0 a_REQUESTED (.int 0)) :
    MetFree l x (head1 (Jvm.Cond.code x code maxLocals ret :: ws) room_1) (fun a U => a = #[(.int p0), (.int p1), (.int p2)] ∧ Z.Warmed39 U.vm ∧ U.heap = h0) (fun _ _ _ _ _ => True) (fun _ U o U' => ∃ v L, o = .returned v ∧ QT n0 v U'.heap L ∧ ReturnedEndW U o U' L room_1.cells room_1.slots) := by
  refine MetFree.of_bodySF (plainFor_of_name pn_com_example_offer_offer_model_TransferStateIsFinalPinLaw) hisR ?_
  intro p e s m args below meth c s₁ Bd hml0 hP hK
  obtain ⟨rfl, hZ, hh⟩ := hP
  have hx := Bd.exec
  have hby := Bd.bytes
  have hml : c.maxLocals = 10 := hml0
  have hown : s.vm.findClass "com/example/offer/offer/model/TransferStateIsFinalPinLaw" = some m.cls := findClass_of_methodNamed Bd.named
  have hnm := (name_of_methodNamed Bd.named Bd.method).1
  have X0 : Stand p l e room_1 s m #[(.int p0), (.int p1), (.int p2)] below meth c s₁ [] 0 0 := Stand.of_body Bd
  have e0 : s₁.heap = h0 := by rw [← hh, Bd.state]; rfl
  have N0 := Fr.nil n0
  obtain ⟨T1, h1, L1, b130, kc131, X1, e1, N1, K1, le_b130, o1_0, o1_1, st1⟩ := sg0_25 p0 p1 p2 a_REQUESTED a_STARTED a_SUSPENDED a_COMPLETED a_TERMINATED X0 hx hZ hw hby hml hown e0 N0 Z0 f1 f2 f3 f4 f5 f6 f7 f8 f9 f10
  have sz_b130 : h0.size ≤ b130 := Nat.le_trans (Nat.le_refl _) le_b130
  have g_b130 : n0 ≤ b130 := Nat.le_trans Z0 sz_b130
  have KK1 : Keep h0 h1 [] := (Keep.refl h0 []).trans K1 (fun x hx => nomatch hx)
  have u2 : S_5 Z h1 (.ref a_CONSUMER) := own_sta_keep f14 K1 (fun _ q => nomatch q)
  obtain ⟨T3, X3, e3, st3⟩ := getS2 X1 hx hZ hown (host := "") (Or.inl (tw_15 hw)) Via.refl e1 u2 (g := (mkF m 63 #[.val (.int p0), .val (.int p1), .val (.int p2), .val (.ref b130), .val (.int 4), .val (.int 0), .unset, .unset, .unset, .unset] [])) rfl (hb hby at_63)
  have va4 := o1_0
  obtain ⟨cl4, Ar4, -, S4, -, H4, -⟩ := va4
  have hin4 : ¬ ((4 : Int32) < 0 ∨ cl4.slots.size ≤ ((4 : Int32)).toNatClampNeg) := inb_of S4 ⟨by decide, by decide⟩
  have hat4 : cl4.slots[((4 : Int32)).toNatClampNeg]? = some (.ref a_TERMINATED) := H4 _ (Nat.lt_of_not_le fun y => hin4 (Or.inr y))
  -- pc 76: com/example/offer/offer/model/TransferState.isFinal
  have u5 : S_3 Z h1 (.ref a_COMPLETED) := own_sta_keep f7 K1 (fun _ q => nomatch q)
  have u6 : S_4 Z h1 (.ref a_TERMINATED) := own_sta_keep f9 K1 (fun _ q => nomatch q)
  have u8 : E_0 Z h1 a_TERMINATED := Exa.keep f10 K1
  obtain ⟨cq7, kq7, q7a, q7b, q7c⟩ := isOf hZ e3 u8
  obtain ⟨_, _, ⟨T7, L7, k7, n7⟩, -, X7, ⟨Lc7, hQ7, l7, y7, z7⟩, st7⟩ := X3.virtualBack hx (y := M_0) (z := M_0) hown (mvT hZ (tw_18 hw)) (mvT hZ (tw_19 hw)) (notFace_of_selects (args := #[]) (mvT hZ (tw_21 hw))) (mvT hZ (tw_21 hw)) (mvT hZ (tw_20 hw)) (by decide) (backOf (W := 0) (rm1_132 l Z a0 hw [] a_TERMINATED a_COMPLETED h1 n0 (Nat.le_trans Z0 KK1.1) u5 f15 u6) hZ (tw_22 hw) (tw_3 hw) (by decide) (by decide)) q7a q7c (g := (mkF m 76 #[.val (.int p0), .val (.int p1), .val (.int p2), .val (.ref b130), .val (.int 4), .val (.int 0), .val (.ref a_CONSUMER), .val (.ref a_TERMINATED), .unset, .unset] [(.ref a_TERMINATED)])) rfl (by rw [hml]; rfl) (Steps.refl _) (argsL := []) (rest := []) (lenOf pd_0 rfl) rfl (by show 2 * 0 + _ ≤ _; exact Nat.le_of_eq rfl) (hb hby at_76) (fun _ _ => ⟨rfl, e3, (by decide : 1 + 0 ≤ _), (by decide : 5 + 0 ≤ _)⟩)
  dsimp only [Pt.U, Pt.locs, Pt.cells, Pt.slots] at X7 l7 y7 z7 st7 hQ7
  subst l7 y7 z7
  obtain ⟨rfl, Nq7, e7⟩ := hQ7
  have N7 := Fr.app N1 Nq7
  have va9 := o1_0
  obtain ⟨cl9, Ar9, -, S9, -, H9, -⟩ := va9
  have hin9 : ¬ ((0 : Int32) < 0 ∨ cl9.slots.size ≤ ((0 : Int32)).toNatClampNeg) := inb_of S9 ⟨by decide, by decide⟩
  have hat9 : cl9.slots[((0 : Int32)).toNatClampNeg]? = some (.ref a_REQUESTED) := H9 _ (Nat.lt_of_not_le fun y => hin9 (Or.inr y))
  -- pc 116: com/example/offer/offer/model/TransferState.canMoveTo
  have u10 : F_0 Z h1 a_REQUESTED (.int 0) := Fld.keep f16 K1 List.not_mem_nil
  have u11 : E_0 Z h1 a_REQUESTED := Exa.keep f2 K1
  obtain ⟨cq12, kq12, q12a, q12b, q12c⟩ := isOf hZ e7 u8
  obtain ⟨_, _, ⟨T12, L12, k12, n12⟩, -, X12, hS12, hg12, ⟨Lc12, hQ12, l12, y12, z12⟩, st12⟩ := X7.virtualBackS hx (y := M_4) (z := M_4) hown (mvT hZ (tw_27 hw)) (mvT hZ (tw_28 hw)) (notFace_of_selects (args := #[]) (mvT hZ (tw_30 hw))) (mvT hZ (tw_30 hw)) (mvT hZ (tw_29 hw)) (by decide) (backOfS (W := 0) (rm2_135 l Z a0 hw [] a_TERMINATED a_REQUESTED a_CONSUMER h1 n0 (Nat.le_trans Z0 KK1.1) u10 u11) hZ (tw_31 hw) (tw_3 hw) (by decide) (by decide)) q12a q12c (g := (mkF m 116 #[.val (.int p0), .val (.int p1), .val (.int p2), .val (.ref b130), .val (.int 4), .val (.int 0), .val (.ref a_CONSUMER), .val (.ref a_TERMINATED), .val (.int 1), .val (.int 1)] [(.ref a_CONSUMER), (.ref a_REQUESTED), (.ref a_TERMINATED)])) rfl (by rw [hml]; rfl) (Steps.refl _) (argsL := [(.ref a_REQUESTED), (.ref a_CONSUMER)]) (rest := []) (lenOf pd_3 rfl) rfl (by show 2 * 0 + _ ≤ _; exact Nat.le_of_eq rfl) (hb hby at_116) (fun _ _ => ⟨rfl, e7, (by decide : 1 + 4 ≤ _), (by decide : 5 + 32 ≤ _)⟩)
  dsimp only [Pt.U, Pt.locs, Pt.cells, Pt.slots] at X12 l12 y12 z12 st12 hQ12 hS12 hg12
  subst l12 y12 z12
  have hZ12 : Z.Warmed39 (s.setVm T12.vm).vm := State.Warmed39.trans hZ hS12.1
  have hown12 : (s.setVm T12.vm).vm.findClass "com/example/offer/offer/model/TransferStateIsFinalPinLaw" = some m.cls := by rw [show (s.setVm T12.vm).vm = T12.vm from rfl, hS12.1.alike.findClass]; exact hown
  obtain ⟨rfl, Nq12, K12⟩ := hQ12
  have N12 := Fr.app N7 Nq12
  have KK12 : Keep h0 T12.heap [] := KK1.trans K12 (fun x hx => nomatch hx)
  obtain ⟨fs, hr, hrun, hended, hRE⟩ := X12.leaveW hS12 (by exact (Nat.le_refl _)) (v := (some (.int 1))) (fun h => by rw [Bd.returns] at h; cases h)
  refine ⟨_, _, castTop (ef0_III m p0 p1 p2) ?_, hrun, hended, _, _, rfl, ?_, hRE.1, hRE.2.1, hRE.2.2.1, hRE.2.2.2.mono (by decide) (by decide)⟩
  · show Steps p.tables e below (s₁.setTop (mkF m 0 #[.val (.int p0), .val (.int p1), .val (.int p2), .unset, .unset, .unset, .unset, .unset, .unset, .unset] [])) _
    refine st1 _ ?_
    refine XS.iloadN X1.here hx rfl (hb hby at_35) rfl ?_
    show Steps p.tables e below (T1.setTop (mkF m 36 #[.val (.int p0), .val (.int p1), .val (.int p2), .val (.ref b130), .unset, .unset, .unset, .unset, .unset, .unset] [(.int p0)])) _
    refine X1.ldcInt hx hown (mvT hZ (tw_14 hw)) (g := (mkF m 36 #[.val (.int p0), .val (.int p1), .val (.int p2), .val (.ref b130), .unset, .unset, .unset, .unset, .unset, .unset] [(.int p0)])) rfl (hb hby at_36) _ ?_
    show Steps p.tables e below (T1.setTop (mkF m 38 #[.val (.int p0), .val (.int p1), .val (.int p2), .val (.ref b130), .unset, .unset, .unset, .unset, .unset, .unset] [(.int 2147483647), (.int p0)])) _
    refine XS.iand X1.here hx rfl (hb hby at_38) rfl ?_
    refine XS.iconst X1.here hx rfl (hb hby at_39) ?_
    show Steps p.tables e below (T1.setTop (mkF m 40 #[.val (.int p0), .val (.int p1), .val (.int p2), .val (.ref b130), .unset, .unset, .unset, .unset, .unset, .unset] [(.int 5), (.int (p0 &&& (2147483647 : Int32)))])) _
    refine iremM X1 hx rfl (hb hby at_40) rfl (by decide) ?_
    show Steps p.tables e below (T1.setTop (mkF m 41 #[.val (.int p0), .val (.int p1), .val (.int p2), .val (.ref b130), .unset, .unset, .unset, .unset, .unset, .unset] [(.int ((p0 &&& (2147483647 : Int32)) % (5 : Int32)))])) _
    rw [f11]
    refine XS.istore X1.here hx rfl (hb hby at_41) rfl (l' := #[.val (.int p0), .val (.int p1), .val (.int p2), .val (.ref b130), .val (.int 4), .unset, .unset, .unset, .unset, .unset]) rfl ?_
    refine XS.iloadN X1.here hx rfl (hb hby at_43) rfl ?_
    show Steps p.tables e below (T1.setTop (mkF m 44 #[.val (.int p0), .val (.int p1), .val (.int p2), .val (.ref b130), .val (.int 4), .unset, .unset, .unset, .unset, .unset] [(.int p1)])) _
    refine X1.ldcInt hx hown (mvT hZ (tw_14 hw)) (g := (mkF m 44 #[.val (.int p0), .val (.int p1), .val (.int p2), .val (.ref b130), .val (.int 4), .unset, .unset, .unset, .unset, .unset] [(.int p1)])) rfl (hb hby at_44) _ ?_
    show Steps p.tables e below (T1.setTop (mkF m 46 #[.val (.int p0), .val (.int p1), .val (.int p2), .val (.ref b130), .val (.int 4), .unset, .unset, .unset, .unset, .unset] [(.int 2147483647), (.int p1)])) _
    refine XS.iand X1.here hx rfl (hb hby at_46) rfl ?_
    refine XS.iconst X1.here hx rfl (hb hby at_47) ?_
    show Steps p.tables e below (T1.setTop (mkF m 48 #[.val (.int p0), .val (.int p1), .val (.int p2), .val (.ref b130), .val (.int 4), .unset, .unset, .unset, .unset, .unset] [(.int 5), (.int (p1 &&& (2147483647 : Int32)))])) _
    refine iremM X1 hx rfl (hb hby at_48) rfl (by decide) ?_
    show Steps p.tables e below (T1.setTop (mkF m 49 #[.val (.int p0), .val (.int p1), .val (.int p2), .val (.ref b130), .val (.int 4), .unset, .unset, .unset, .unset, .unset] [(.int ((p1 &&& (2147483647 : Int32)) % (5 : Int32)))])) _
    rw [f12]
    refine XS.istore X1.here hx rfl (hb hby at_49) rfl (l' := #[.val (.int p0), .val (.int p1), .val (.int p2), .val (.ref b130), .val (.int 4), .val (.int 0), .unset, .unset, .unset, .unset]) rfl ?_
    refine XS.iloadN X1.here hx rfl (hb hby at_51) rfl ?_
    refine XS.iconst X1.here hx rfl (hb hby at_52) ?_
    show Steps p.tables e below (T1.setTop (mkF m 53 #[.val (.int p0), .val (.int p1), .val (.int p2), .val (.ref b130), .val (.int 4), .val (.int 0), .unset, .unset, .unset, .unset] [(.int 1), (.int p2)])) _
    refine XS.iand X1.here hx rfl (hb hby at_53) rfl ?_
    refine XS.ifYes X1.here hx rfl (pc0 := 54) (pc' := 63) rfl (hb hby at_54) rfl ((if0 _ _).trans (teq (f13 : (p2 &&& (1 : Int32)) = (0 : Int32))).1) (by decide) (by decide) ?_
    show Steps p.tables e below (T1.setTop (mkF m 63 #[.val (.int p0), .val (.int p1), .val (.int p2), .val (.ref b130), .val (.int 4), .val (.int 0), .unset, .unset, .unset, .unset] [])) _
    refine st3 _ ?_
    refine XS.astore X3.here hx rfl (hb hby at_66) rfl rfl (l' := #[.val (.int p0), .val (.int p1), .val (.int p2), .val (.ref b130), .val (.int 4), .val (.int 0), .val (.ref a_CONSUMER), .unset, .unset, .unset]) rfl ?_
    refine XS.aloadN X3.here hx rfl (hb hby at_68) rfl rfl ?_
    refine XS.iload X3.here hx rfl (hb hby at_69) rfl ?_
    show Steps p.tables e below (T3.setTop (mkF m 71 #[.val (.int p0), .val (.int p1), .val (.int p2), .val (.ref b130), .val (.int 4), .val (.int 0), .val (.ref a_CONSUMER), .unset, .unset, .unset] [(.int 4), (.ref b130)])) _
    refine X3.aaload hx (j := (4 : Int32)) (v := (.ref a_TERMINATED)) (by rw [e3]; exact Ar4.1) (State.isArrayOf_alike hZ.alike Ar4.2.1) rfl Ar4.2.2 hin4 hat4 (g := (mkF m 71 #[.val (.int p0), .val (.int p1), .val (.int p2), .val (.ref b130), .val (.int 4), .val (.int 0), .val (.ref a_CONSUMER), .unset, .unset, .unset] [(.int 4), (.ref b130)])) rfl rfl (hb hby at_71) _ ?_
    refine XS.astore X3.here hx rfl (hb hby at_72) rfl rfl (l' := #[.val (.int p0), .val (.int p1), .val (.int p2), .val (.ref b130), .val (.int 4), .val (.int 0), .val (.ref a_CONSUMER), .val (.ref a_TERMINATED), .unset, .unset]) rfl ?_
    refine XS.aload X3.here hx rfl (hb hby at_74) rfl rfl ?_
    show Steps p.tables e below (T3.setTop (mkF m 76 #[.val (.int p0), .val (.int p1), .val (.int p2), .val (.ref b130), .val (.int 4), .val (.int 0), .val (.ref a_CONSUMER), .val (.ref a_TERMINATED), .unset, .unset] [(.ref a_TERMINATED)])) _
    refine st7.trans ?_
    refine XS.istore X7.here hx rfl (hb hby at_79) rfl (l' := #[.val (.int p0), .val (.int p1), .val (.int p2), .val (.ref b130), .val (.int 4), .val (.int 0), .val (.ref a_CONSUMER), .val (.ref a_TERMINATED), .val (.int 1), .unset]) rfl ?_
    refine XS.iload X7.here hx rfl (hb hby at_81) rfl ?_
    refine XS.iconst X7.here hx rfl (hb hby at_83) ?_
    refine XS.icmpNo X7.here hx rfl (hb hby at_84) rfl (by decide) ?_
    show Steps p.tables e below (T7.setTop (mkF m 87 #[.val (.int p0), .val (.int p1), .val (.int p2), .val (.ref b130), .val (.int 4), .val (.int 0), .val (.ref a_CONSUMER), .val (.ref a_TERMINATED), .val (.int 1), .unset] [])) _
    refine XS.iconst X7.here hx rfl (hb hby at_87) ?_
    refine XS.goto X7.here hx rfl (pc0 := 88) (pc' := 92) rfl (hb hby at_88) (by decide) (by decide) ?_
    refine XS.istore X7.here hx rfl (hb hby at_92) rfl (l' := #[.val (.int p0), .val (.int p1), .val (.int p2), .val (.ref b130), .val (.int 4), .val (.int 0), .val (.ref a_CONSUMER), .val (.ref a_TERMINATED), .val (.int 1), .val (.int 1)]) rfl ?_
    refine XS.iload X7.here hx rfl (hb hby at_94) rfl ?_
    refine XS.iload X7.here hx rfl (hb hby at_96) rfl ?_
    show Steps p.tables e below (T7.setTop (mkF m 98 #[.val (.int p0), .val (.int p1), .val (.int p2), .val (.ref b130), .val (.int 4), .val (.int 0), .val (.ref a_CONSUMER), .val (.ref a_TERMINATED), .val (.int 1), .val (.int 1)] [(.int 1), (.int 1)])) _
    refine XS.icmpYes X7.here hx rfl (pc0 := 98) (pc' := 103) rfl (hb hby at_98) rfl (by decide) (by decide) (by decide) ?_
    refine XS.iload X7.here hx rfl (hb hby at_103) rfl ?_
    refine XS.ifNo X7.here hx rfl (hb hby at_105) rfl (by decide) ?_
    refine XS.aload X7.here hx rfl (hb hby at_108) rfl rfl ?_
    refine XS.aloadN X7.here hx rfl (hb hby at_110) rfl rfl ?_
    show Steps p.tables e below (T7.setTop (mkF m 111 #[.val (.int p0), .val (.int p1), .val (.int p2), .val (.ref b130), .val (.int 4), .val (.int 0), .val (.ref a_CONSUMER), .val (.ref a_TERMINATED), .val (.int 1), .val (.int 1)] [(.ref b130), (.ref a_TERMINATED)])) _
    refine XS.iload X7.here hx rfl (hb hby at_111) rfl ?_
    show Steps p.tables e below (T7.setTop (mkF m 113 #[.val (.int p0), .val (.int p1), .val (.int p2), .val (.ref b130), .val (.int 4), .val (.int 0), .val (.ref a_CONSUMER), .val (.ref a_TERMINATED), .val (.int 1), .val (.int 1)] [(.int 0), (.ref b130), (.ref a_TERMINATED)])) _
    refine X7.aaload hx (j := (0 : Int32)) (v := (.ref a_REQUESTED)) (by rw [e7]; exact Ar9.1) (State.isArrayOf_alike hZ.alike Ar9.2.1) rfl Ar9.2.2 hin9 hat9 (g := (mkF m 113 #[.val (.int p0), .val (.int p1), .val (.int p2), .val (.ref b130), .val (.int 4), .val (.int 0), .val (.ref a_CONSUMER), .val (.ref a_TERMINATED), .val (.int 1), .val (.int 1)] [(.int 0), (.ref b130), (.ref a_TERMINATED)])) rfl rfl (hb hby at_113) _ ?_
    refine XS.aload X7.here hx rfl (hb hby at_114) rfl rfl ?_
    show Steps p.tables e below (T7.setTop (mkF m 116 #[.val (.int p0), .val (.int p1), .val (.int p2), .val (.ref b130), .val (.int 4), .val (.int 0), .val (.ref a_CONSUMER), .val (.ref a_TERMINATED), .val (.int 1), .val (.int 1)] [(.ref a_CONSUMER), (.ref a_REQUESTED), (.ref a_TERMINATED)])) _
    refine st12.trans ?_
    refine XS.ifYes X12.here hx rfl (pc0 := 119) (pc' := 124) rfl (hb hby at_119) rfl (by decide) (by decide) (by decide) ?_
    refine XS.iconst X12.here hx rfl (hb hby at_124) ?_
    show Steps p.tables e below (T12.setTop (mkF m 125 #[.val (.int p0), .val (.int p1), .val (.int p2), .val (.ref b130), .val (.int 4), .val (.int 0), .val (.ref a_CONSUMER), .val (.ref a_TERMINATED), .val (.int 1), .val (.int 1)] [(.int 1)])) _
    exact retN X12 hx (t := .boolean) Bd.returns (by simp) (hb hby at_125) hr
  · show QT n0 _ T12.heap _
    exact ⟨rfl, N12⟩
def Q2_143 (Z : State)  (h0 : Heap) (n0 : Nat) (v : Option Value) (h : Heap) (L : List Loc) : Prop := v = (some (.int 0)) ∧ Fr n0 L ∧ Keep h0 h []
set_option maxRecDepth 65536 in
set_option maxHeartbeats 40000000 in
theorem rm2_142 (l : Launch) (Z : State) (a0 : Array Value) (hw : ∀ d ∈ tables_1, d.before a0 Z = true) (ws : List Jvm.Cond) (a_TERMINATED : Addr) (a_REQUESTED : Addr) (a_PROVIDER : Addr) (h0 : Heap) (n0 : Nat) (Z0 : n0 ≤ h0.size) (f1 : F_0 Z h0 a_REQUESTED (.int 0)) (f2 : E_0 Z h0 a_REQUESTED) :
    MetFree l M_4 (head1 (Jvm.Cond.code M_4 prog_6_method_5_code 3 (some .boolean) :: ws) R_1_4_32_13) (fun a U => a = #[(.ref a_TERMINATED), (.ref a_REQUESTED), (.ref a_PROVIDER)] ∧ Z.Warmed39 U.vm ∧ U.heap = h0) (fun _ _ _ _ _ => True) (fun _ U o U' => ∃ v L, o = .returned v ∧ Q2_143 Z  h0 n0 v U'.heap L ∧ ReturnedEndW U o U' L R_1_4_32_13.cells R_1_4_32_13.slots) := by
  refine MetFree.of_bodySF (plainFor_of_name pn_com_example_offer_offer_model_TransferState) hisR ?_
  intro p e s m args below meth c s₁ Bd hml0 hP hK
  obtain ⟨rfl, hZ, hh⟩ := hP
  have hx := Bd.exec
  have hby := Bd.bytes
  have hml : c.maxLocals = 3 := hml0
  have hown : s.vm.findClass "com/example/offer/offer/model/TransferState" = some m.cls := findClass_of_methodNamed Bd.named
  have hnm := (name_of_methodNamed Bd.named Bd.method).1
  have X0 : Stand p l e R_1_4_32_13 s m #[(.ref a_TERMINATED), (.ref a_REQUESTED), (.ref a_PROVIDER)] below meth c s₁ [] 0 0 := Stand.of_body Bd
  have e0 : s₁.heap = h0 := by rw [← hh, Bd.state]; rfl
  have N0 := Fr.nil n0
  obtain ⟨ax140, T1, h1, kz1, X1, e1, E1, hS1, hk1, hZ1, hown1, st1⟩ := ldcS (s := s) (vm0 := s.vm) X0 hx hZ hown (tw_32 hw) (own_strs hw) e0 ((State.WarmedH.refl s).since 0) (Nat.zero_le _) (g := (mkF m 1 #[.val (.ref a_TERMINATED), .val (.ref a_REQUESTED), .val (.ref a_PROVIDER)] [(.ref a_REQUESTED)])) rfl (hb hby d2_1) (n := 16) (by decide) (by decide) (by decide) (by decide)
  have KK1 : Keep h0 h1 [] := (Keep.refl h0 []).ext E1
  -- pc 3: java/util/Objects.requireNonNull
  obtain ⟨_, _, ⟨T2, L2, k2, n2⟩, -, X2, ⟨Lc2, hQ2, l2, y2, z2⟩, st2⟩ := Jvm.LawKit.callS X1 hx (y := M_1) hown1 (mvT hZ1 (tw_40 hw)) (mvT hZ1 (tw_41 hw)) (mvT hZ1 (tw_42 hw)) (mvT hZ1 (tw_43 hw)) (by decide) (backOf (W := 0) (rm3_51 l Z a0 hw [] a_REQUESTED ax140 h1 n0 (Nat.le_trans Z0 KK1.1) ) hZ1 (tw_43 hw) (tw_42 hw) (by decide) (by decide)) (g := (mkF m 3 #[.val (.ref a_TERMINATED), .val (.ref a_REQUESTED), .val (.ref a_PROVIDER)] [(.ref ax140), (.ref a_REQUESTED)])) rfl (by rw [hml]; rfl) (argsL := [(.ref a_REQUESTED), (.ref ax140)]) (rest := []) (lenOf pd_1 rfl) rfl (by show 2 * 0 + _ ≤ _; exact Nat.le_of_eq rfl) (hb hby d2_3) (fun _ _ => ⟨rfl, e1, (by decide : 2 + 0 ≤ _), (by decide : 20 + 0 ≤ _)⟩)
  dsimp only [Pt.U, Pt.locs, Pt.cells, Pt.slots] at X2 l2 y2 z2 st2 hQ2
  subst l2 y2 z2
  obtain ⟨rfl, Nq2, e2⟩ := hQ2
  have N2 := Fr.app N0 Nq2
  obtain ⟨ax141, T3, h3, kz3, X3, e3, E3, hS3, hk3, hZ3, hown3, st3⟩ := ldcS (s := s) (vm0 := T1.vm) X2 hx hZ1 hown1 (tw_44 hw) (own_strs hw) e2 hS1 hk1 (g := (mkF m 8 #[.val (.ref a_TERMINATED), .val (.ref a_REQUESTED), .val (.ref a_PROVIDER)] [(.ref a_PROVIDER)])) rfl (hb hby d2_8) (n := 8) (by decide) (by decide) (by decide) (by decide)
  have KK3 : Keep h0 h3 [] := KK1.ext E3
  -- pc 10: java/util/Objects.requireNonNull
  obtain ⟨_, _, ⟨T4, L4, k4, n4⟩, -, X4, ⟨Lc4, hQ4, l4, y4, z4⟩, st4⟩ := Jvm.LawKit.callS X3 hx (y := M_1) hown3 (mvT hZ3 (tw_40 hw)) (mvT hZ3 (tw_41 hw)) (mvT hZ3 (tw_42 hw)) (mvT hZ3 (tw_43 hw)) (by decide) (backOf (W := 0) (rm3_62 l Z a0 hw [] a_PROVIDER ax141 h3 n0 (Nat.le_trans Z0 KK3.1) ) hZ3 (tw_43 hw) (tw_42 hw) (by decide) (by decide)) (g := (mkF m 10 #[.val (.ref a_TERMINATED), .val (.ref a_REQUESTED), .val (.ref a_PROVIDER)] [(.ref ax141), (.ref a_PROVIDER)])) rfl (by rw [hml]; rfl) (argsL := [(.ref a_PROVIDER), (.ref ax141)]) (rest := []) (lenOf pd_1 rfl) rfl (by show 2 * 0 + _ ≤ _; exact Nat.le_of_eq rfl) (hb hby d2_10) (fun _ _ => ⟨rfl, e3, (by decide : 4 + 0 ≤ _), (by decide : 32 + 0 ≤ _)⟩)
  dsimp only [Pt.U, Pt.locs, Pt.cells, Pt.slots] at X4 l4 y4 z4 st4 hQ4
  subst l4 y4 z4
  obtain ⟨rfl, Nq4, e4⟩ := hQ4
  have N4 := Fr.app N2 Nq4
  -- pc 15: java/lang/Enum.ordinal
  have u5 : F_0 Z h1 a_REQUESTED (.int 0) := Fld.ext E1 f1
  have u6 : F_0 Z h3 a_REQUESTED (.int 0) := Fld.ext E3 u5
  have u8 : E_0 Z h1 a_REQUESTED := Exa.ext E1 f2
  have u9 : E_0 Z h3 a_REQUESTED := Exa.ext E3 u8
  obtain ⟨cq7, kq7, q7a, q7b, q7c⟩ := isOf hZ3 e4 u9
  obtain ⟨_, _, ⟨T7, L7, k7, n7⟩, -, X7, ⟨Lc7, hQ7, l7, y7, z7⟩, st7⟩ := X4.virtualBackUp hx (x := M_3) (y := M_2) (owner := "java/lang/Enum") hown3 (mvT hZ3 (tw_45 hw)) (mvT hZ3 (tw_46 hw)) (mvT hZ3 (tw_47 hw)) (by decide) (mvT hZ3 (tw_49 hw)) (mvT hZ3 (tw_48 hw)) (backOf (W := 0) (rm4_54 l Z a0 hw [] a_REQUESTED h3 n0 (Nat.le_trans Z0 KK3.1) u6) hZ3 (tw_51 hw) (tw_50 hw) (by decide) (by decide)) q7a q7c (g := (mkF m 15 #[.val (.ref a_TERMINATED), .val (.ref a_REQUESTED), .val (.ref a_PROVIDER)] [(.ref a_REQUESTED)])) rfl (by rw [hml]; rfl) (Steps.refl _) (argsL := []) (rest := []) (lenOf pd_2 rfl) rfl (by show 2 * 0 + _ ≤ _; exact Nat.le_of_eq rfl) (hb hby d2_15) (fun _ _ => ⟨rfl, e4, (by decide : 4 + 0 ≤ _), (by decide : 32 + 0 ≤ _)⟩)
  dsimp only [Pt.U, Pt.locs, Pt.cells, Pt.slots] at X7 l7 y7 z7 st7 hQ7
  subst l7 y7 z7
  obtain ⟨rfl, Nq7, e7⟩ := hQ7
  have N7 := Fr.app N4 Nq7
  obtain ⟨fs, hr, hrun, hended, hRE⟩ := X7.leaveW hS3 (by rw [e7]; exact hk3) (v := (some (.int 0))) (fun h => by rw [Bd.returns] at h; cases h)
  refine ⟨_, _, castTop (ef2_RRR m a_TERMINATED a_REQUESTED a_PROVIDER) ?_, hrun, hended, _, _, rfl, ?_, hRE.1, hRE.2.1, hRE.2.2.1, hRE.2.2.2.mono (by decide) (by decide)⟩
  · show Steps p.tables e below (s₁.setTop (mkF m 0 #[.val (.ref a_TERMINATED), .val (.ref a_REQUESTED), .val (.ref a_PROVIDER)] [])) _
    refine XS.aloadN X0.here hx rfl (hb hby d2_0) rfl rfl ?_
    show Steps p.tables e below (s₁.setTop (mkF m 1 #[.val (.ref a_TERMINATED), .val (.ref a_REQUESTED), .val (.ref a_PROVIDER)] [(.ref a_REQUESTED)])) _
    refine st1 _ ?_
    show Steps p.tables e below (T1.setTop (mkF m 3 #[.val (.ref a_TERMINATED), .val (.ref a_REQUESTED), .val (.ref a_PROVIDER)] [(.ref ax140), (.ref a_REQUESTED)])) _
    refine st2 _ ?_
    refine XS.pop X2.here hx rfl (hb hby d2_6) rfl rfl ?_
    refine XS.aloadN X2.here hx rfl (hb hby d2_7) rfl rfl ?_
    show Steps p.tables e below (T2.setTop (mkF m 8 #[.val (.ref a_TERMINATED), .val (.ref a_REQUESTED), .val (.ref a_PROVIDER)] [(.ref a_PROVIDER)])) _
    refine st3 _ ?_
    show Steps p.tables e below (T3.setTop (mkF m 10 #[.val (.ref a_TERMINATED), .val (.ref a_REQUESTED), .val (.ref a_PROVIDER)] [(.ref ax141), (.ref a_PROVIDER)])) _
    refine st4 _ ?_
    refine XS.pop X4.here hx rfl (hb hby d2_13) rfl rfl ?_
    refine XS.aloadN X4.here hx rfl (hb hby d2_14) rfl rfl ?_
    show Steps p.tables e below (T4.setTop (mkF m 15 #[.val (.ref a_TERMINATED), .val (.ref a_REQUESTED), .val (.ref a_PROVIDER)] [(.ref a_REQUESTED)])) _
    refine st7.trans ?_
    show Steps p.tables e below (T7.setTop (mkF m 18 #[.val (.ref a_TERMINATED), .val (.ref a_REQUESTED), .val (.ref a_PROVIDER)] [(.int 0)])) _
    refine XS.tswIn X7.here hx rfl (pc0 := 18) (pc' := 62) (o := 44) rfl (hb hby d2_18) rfl (by decide) (by decide) (by decide) (by decide) ?_
    refine XS.iconst X7.here hx rfl (hb hby d2_62) ?_
    refine XS.goto X7.here hx rfl (pc0 := 63) (pc' := 122) rfl (hb hby d2_63) (by decide) (by decide) ?_
    show Steps p.tables e below (T7.setTop (mkF m 122 #[.val (.ref a_TERMINATED), .val (.ref a_REQUESTED), .val (.ref a_PROVIDER)] [(.int 0)])) _
    exact retN X7 hx (t := .boolean) Bd.returns (by simp) (hb hby d2_122) hr
  · show Q2_143 Z  h0 n0 _ T7.heap _
    rw [e7]
    exact ⟨rfl, N7, KK3⟩
set_option maxRecDepth 65536 in
set_option maxHeartbeats 40000000 in
theorem rm0_144 (l : Launch) (Z : State) (a0 : Array Value) (hw : ∀ d ∈ tables_1, d.before a0 Z = true) (ws : List Jvm.Cond) (p0 : Int32) (p1 : Int32) (p2 : Int32) (a_REQUESTED : Addr) (a_STARTED : Addr) (a_SUSPENDED : Addr) (a_COMPLETED : Addr) (a_TERMINATED : Addr) (a_PROVIDER : Addr) (h0 : Heap) (n0 : Nat) (Z0 : n0 ≤ h0.size) (f1 : S_0 Z h0 (.ref a_REQUESTED)) (f2 : E_0 Z h0 a_REQUESTED) (f3 : S_1 Z h0 (.ref a_STARTED)) (f4 : E_0 Z h0 a_STARTED) (f5 : S_2 Z h0 (.ref a_SUSPENDED)) (f6 : E_0 Z h0 a_SUSPENDED) (f7 : S_3 Z h0 (.ref a_COMPLETED)) (f8 : E_0 Z h0 a_COMPLETED) (f9 : S_4 Z h0 (.ref a_TERMINATED)) (f10 : E_0 Z h0 a_TERMINATED) (f11 : ((p0 &&& (2147483647 : Int32)) % (5 : Int32)) = (4 : Int32)) (f12 : ((p1 &&& (2147483647 : Int32)) % (5 : Int32)) = (0 : Int32)) (f13 : ¬ ((p2 &&& (1 : Int32)) = (0 : Int32))) (f14 : S_6 Z h0 (.ref a_PROVIDER)) (f15 : a_COMPLETED ≠ a_TERMINATED) (f16 : F_0 Z h0 a_REQUESTED (.int 0)) :
    MetFree l x (head1 (Jvm.Cond.code x code maxLocals ret :: ws) room_1) (fun a U => a = #[(.int p0), (.int p1), (.int p2)] ∧ Z.Warmed39 U.vm ∧ U.heap = h0) (fun _ _ _ _ _ => True) (fun _ U o U' => ∃ v L, o = .returned v ∧ QT n0 v U'.heap L ∧ ReturnedEndW U o U' L room_1.cells room_1.slots) := by
  refine MetFree.of_bodySF (plainFor_of_name pn_com_example_offer_offer_model_TransferStateIsFinalPinLaw) hisR ?_
  intro p e s m args below meth c s₁ Bd hml0 hP hK
  obtain ⟨rfl, hZ, hh⟩ := hP
  have hx := Bd.exec
  have hby := Bd.bytes
  have hml : c.maxLocals = 10 := hml0
  have hown : s.vm.findClass "com/example/offer/offer/model/TransferStateIsFinalPinLaw" = some m.cls := findClass_of_methodNamed Bd.named
  have hnm := (name_of_methodNamed Bd.named Bd.method).1
  have X0 : Stand p l e room_1 s m #[(.int p0), (.int p1), (.int p2)] below meth c s₁ [] 0 0 := Stand.of_body Bd
  have e0 : s₁.heap = h0 := by rw [← hh, Bd.state]; rfl
  have N0 := Fr.nil n0
  obtain ⟨T1, h1, L1, b138, kc139, X1, e1, N1, K1, le_b138, o1_0, o1_1, st1⟩ := sg0_25 p0 p1 p2 a_REQUESTED a_STARTED a_SUSPENDED a_COMPLETED a_TERMINATED X0 hx hZ hw hby hml hown e0 N0 Z0 f1 f2 f3 f4 f5 f6 f7 f8 f9 f10
  have sz_b138 : h0.size ≤ b138 := Nat.le_trans (Nat.le_refl _) le_b138
  have g_b138 : n0 ≤ b138 := Nat.le_trans Z0 sz_b138
  have KK1 : Keep h0 h1 [] := (Keep.refl h0 []).trans K1 (fun x hx => nomatch hx)
  have u2 : S_6 Z h1 (.ref a_PROVIDER) := own_sta_keep f14 K1 (fun _ q => nomatch q)
  obtain ⟨T3, X3, e3, st3⟩ := getS2 X1 hx hZ hown (host := "") (Or.inl (tw_25 hw)) Via.refl e1 u2 (g := (mkF m 57 #[.val (.int p0), .val (.int p1), .val (.int p2), .val (.ref b138), .val (.int 4), .val (.int 0), .unset, .unset, .unset, .unset] [])) rfl (hb hby at_57)
  have va4 := o1_0
  obtain ⟨cl4, Ar4, -, S4, -, H4, -⟩ := va4
  have hin4 : ¬ ((4 : Int32) < 0 ∨ cl4.slots.size ≤ ((4 : Int32)).toNatClampNeg) := inb_of S4 ⟨by decide, by decide⟩
  have hat4 : cl4.slots[((4 : Int32)).toNatClampNeg]? = some (.ref a_TERMINATED) := H4 _ (Nat.lt_of_not_le fun y => hin4 (Or.inr y))
  -- pc 76: com/example/offer/offer/model/TransferState.isFinal
  have u5 : S_3 Z h1 (.ref a_COMPLETED) := own_sta_keep f7 K1 (fun _ q => nomatch q)
  have u6 : S_4 Z h1 (.ref a_TERMINATED) := own_sta_keep f9 K1 (fun _ q => nomatch q)
  have u8 : E_0 Z h1 a_TERMINATED := Exa.keep f10 K1
  obtain ⟨cq7, kq7, q7a, q7b, q7c⟩ := isOf hZ e3 u8
  obtain ⟨_, _, ⟨T7, L7, k7, n7⟩, -, X7, ⟨Lc7, hQ7, l7, y7, z7⟩, st7⟩ := X3.virtualBack hx (y := M_0) (z := M_0) hown (mvT hZ (tw_18 hw)) (mvT hZ (tw_19 hw)) (notFace_of_selects (args := #[]) (mvT hZ (tw_21 hw))) (mvT hZ (tw_21 hw)) (mvT hZ (tw_20 hw)) (by decide) (backOf (W := 0) (rm1_132 l Z a0 hw [] a_TERMINATED a_COMPLETED h1 n0 (Nat.le_trans Z0 KK1.1) u5 f15 u6) hZ (tw_22 hw) (tw_3 hw) (by decide) (by decide)) q7a q7c (g := (mkF m 76 #[.val (.int p0), .val (.int p1), .val (.int p2), .val (.ref b138), .val (.int 4), .val (.int 0), .val (.ref a_PROVIDER), .val (.ref a_TERMINATED), .unset, .unset] [(.ref a_TERMINATED)])) rfl (by rw [hml]; rfl) (Steps.refl _) (argsL := []) (rest := []) (lenOf pd_0 rfl) rfl (by show 2 * 0 + _ ≤ _; exact Nat.le_of_eq rfl) (hb hby at_76) (fun _ _ => ⟨rfl, e3, (by decide : 1 + 0 ≤ _), (by decide : 5 + 0 ≤ _)⟩)
  dsimp only [Pt.U, Pt.locs, Pt.cells, Pt.slots] at X7 l7 y7 z7 st7 hQ7
  subst l7 y7 z7
  obtain ⟨rfl, Nq7, e7⟩ := hQ7
  have N7 := Fr.app N1 Nq7
  have va9 := o1_0
  obtain ⟨cl9, Ar9, -, S9, -, H9, -⟩ := va9
  have hin9 : ¬ ((0 : Int32) < 0 ∨ cl9.slots.size ≤ ((0 : Int32)).toNatClampNeg) := inb_of S9 ⟨by decide, by decide⟩
  have hat9 : cl9.slots[((0 : Int32)).toNatClampNeg]? = some (.ref a_REQUESTED) := H9 _ (Nat.lt_of_not_le fun y => hin9 (Or.inr y))
  -- pc 116: com/example/offer/offer/model/TransferState.canMoveTo
  have u10 : F_0 Z h1 a_REQUESTED (.int 0) := Fld.keep f16 K1 List.not_mem_nil
  have u11 : E_0 Z h1 a_REQUESTED := Exa.keep f2 K1
  obtain ⟨cq12, kq12, q12a, q12b, q12c⟩ := isOf hZ e7 u8
  obtain ⟨_, _, ⟨T12, L12, k12, n12⟩, -, X12, hS12, hg12, ⟨Lc12, hQ12, l12, y12, z12⟩, st12⟩ := X7.virtualBackS hx (y := M_4) (z := M_4) hown (mvT hZ (tw_27 hw)) (mvT hZ (tw_28 hw)) (notFace_of_selects (args := #[]) (mvT hZ (tw_30 hw))) (mvT hZ (tw_30 hw)) (mvT hZ (tw_29 hw)) (by decide) (backOfS (W := 0) (rm2_142 l Z a0 hw [] a_TERMINATED a_REQUESTED a_PROVIDER h1 n0 (Nat.le_trans Z0 KK1.1) u10 u11) hZ (tw_31 hw) (tw_3 hw) (by decide) (by decide)) q12a q12c (g := (mkF m 116 #[.val (.int p0), .val (.int p1), .val (.int p2), .val (.ref b138), .val (.int 4), .val (.int 0), .val (.ref a_PROVIDER), .val (.ref a_TERMINATED), .val (.int 1), .val (.int 1)] [(.ref a_PROVIDER), (.ref a_REQUESTED), (.ref a_TERMINATED)])) rfl (by rw [hml]; rfl) (Steps.refl _) (argsL := [(.ref a_REQUESTED), (.ref a_PROVIDER)]) (rest := []) (lenOf pd_3 rfl) rfl (by show 2 * 0 + _ ≤ _; exact Nat.le_of_eq rfl) (hb hby at_116) (fun _ _ => ⟨rfl, e7, (by decide : 1 + 4 ≤ _), (by decide : 5 + 32 ≤ _)⟩)
  dsimp only [Pt.U, Pt.locs, Pt.cells, Pt.slots] at X12 l12 y12 z12 st12 hQ12 hS12 hg12
  subst l12 y12 z12
  have hZ12 : Z.Warmed39 (s.setVm T12.vm).vm := State.Warmed39.trans hZ hS12.1
  have hown12 : (s.setVm T12.vm).vm.findClass "com/example/offer/offer/model/TransferStateIsFinalPinLaw" = some m.cls := by rw [show (s.setVm T12.vm).vm = T12.vm from rfl, hS12.1.alike.findClass]; exact hown
  obtain ⟨rfl, Nq12, K12⟩ := hQ12
  have N12 := Fr.app N7 Nq12
  have KK12 : Keep h0 T12.heap [] := KK1.trans K12 (fun x hx => nomatch hx)
  obtain ⟨fs, hr, hrun, hended, hRE⟩ := X12.leaveW hS12 (by exact (Nat.le_refl _)) (v := (some (.int 1))) (fun h => by rw [Bd.returns] at h; cases h)
  refine ⟨_, _, castTop (ef0_III m p0 p1 p2) ?_, hrun, hended, _, _, rfl, ?_, hRE.1, hRE.2.1, hRE.2.2.1, hRE.2.2.2.mono (by decide) (by decide)⟩
  · show Steps p.tables e below (s₁.setTop (mkF m 0 #[.val (.int p0), .val (.int p1), .val (.int p2), .unset, .unset, .unset, .unset, .unset, .unset, .unset] [])) _
    refine st1 _ ?_
    refine XS.iloadN X1.here hx rfl (hb hby at_35) rfl ?_
    show Steps p.tables e below (T1.setTop (mkF m 36 #[.val (.int p0), .val (.int p1), .val (.int p2), .val (.ref b138), .unset, .unset, .unset, .unset, .unset, .unset] [(.int p0)])) _
    refine X1.ldcInt hx hown (mvT hZ (tw_14 hw)) (g := (mkF m 36 #[.val (.int p0), .val (.int p1), .val (.int p2), .val (.ref b138), .unset, .unset, .unset, .unset, .unset, .unset] [(.int p0)])) rfl (hb hby at_36) _ ?_
    show Steps p.tables e below (T1.setTop (mkF m 38 #[.val (.int p0), .val (.int p1), .val (.int p2), .val (.ref b138), .unset, .unset, .unset, .unset, .unset, .unset] [(.int 2147483647), (.int p0)])) _
    refine XS.iand X1.here hx rfl (hb hby at_38) rfl ?_
    refine XS.iconst X1.here hx rfl (hb hby at_39) ?_
    show Steps p.tables e below (T1.setTop (mkF m 40 #[.val (.int p0), .val (.int p1), .val (.int p2), .val (.ref b138), .unset, .unset, .unset, .unset, .unset, .unset] [(.int 5), (.int (p0 &&& (2147483647 : Int32)))])) _
    refine iremM X1 hx rfl (hb hby at_40) rfl (by decide) ?_
    show Steps p.tables e below (T1.setTop (mkF m 41 #[.val (.int p0), .val (.int p1), .val (.int p2), .val (.ref b138), .unset, .unset, .unset, .unset, .unset, .unset] [(.int ((p0 &&& (2147483647 : Int32)) % (5 : Int32)))])) _
    rw [f11]
    refine XS.istore X1.here hx rfl (hb hby at_41) rfl (l' := #[.val (.int p0), .val (.int p1), .val (.int p2), .val (.ref b138), .val (.int 4), .unset, .unset, .unset, .unset, .unset]) rfl ?_
    refine XS.iloadN X1.here hx rfl (hb hby at_43) rfl ?_
    show Steps p.tables e below (T1.setTop (mkF m 44 #[.val (.int p0), .val (.int p1), .val (.int p2), .val (.ref b138), .val (.int 4), .unset, .unset, .unset, .unset, .unset] [(.int p1)])) _
    refine X1.ldcInt hx hown (mvT hZ (tw_14 hw)) (g := (mkF m 44 #[.val (.int p0), .val (.int p1), .val (.int p2), .val (.ref b138), .val (.int 4), .unset, .unset, .unset, .unset, .unset] [(.int p1)])) rfl (hb hby at_44) _ ?_
    show Steps p.tables e below (T1.setTop (mkF m 46 #[.val (.int p0), .val (.int p1), .val (.int p2), .val (.ref b138), .val (.int 4), .unset, .unset, .unset, .unset, .unset] [(.int 2147483647), (.int p1)])) _
    refine XS.iand X1.here hx rfl (hb hby at_46) rfl ?_
    refine XS.iconst X1.here hx rfl (hb hby at_47) ?_
    show Steps p.tables e below (T1.setTop (mkF m 48 #[.val (.int p0), .val (.int p1), .val (.int p2), .val (.ref b138), .val (.int 4), .unset, .unset, .unset, .unset, .unset] [(.int 5), (.int (p1 &&& (2147483647 : Int32)))])) _
    refine iremM X1 hx rfl (hb hby at_48) rfl (by decide) ?_
    show Steps p.tables e below (T1.setTop (mkF m 49 #[.val (.int p0), .val (.int p1), .val (.int p2), .val (.ref b138), .val (.int 4), .unset, .unset, .unset, .unset, .unset] [(.int ((p1 &&& (2147483647 : Int32)) % (5 : Int32)))])) _
    rw [f12]
    refine XS.istore X1.here hx rfl (hb hby at_49) rfl (l' := #[.val (.int p0), .val (.int p1), .val (.int p2), .val (.ref b138), .val (.int 4), .val (.int 0), .unset, .unset, .unset, .unset]) rfl ?_
    refine XS.iloadN X1.here hx rfl (hb hby at_51) rfl ?_
    refine XS.iconst X1.here hx rfl (hb hby at_52) ?_
    show Steps p.tables e below (T1.setTop (mkF m 53 #[.val (.int p0), .val (.int p1), .val (.int p2), .val (.ref b138), .val (.int 4), .val (.int 0), .unset, .unset, .unset, .unset] [(.int 1), (.int p2)])) _
    refine XS.iand X1.here hx rfl (hb hby at_53) rfl ?_
    refine XS.ifNo X1.here hx rfl (hb hby at_54) rfl ((if0 _ _).trans (feq (f13 : ¬ ((p2 &&& (1 : Int32)) = (0 : Int32)))).1) ?_
    show Steps p.tables e below (T1.setTop (mkF m 57 #[.val (.int p0), .val (.int p1), .val (.int p2), .val (.ref b138), .val (.int 4), .val (.int 0), .unset, .unset, .unset, .unset] [])) _
    refine st3 _ ?_
    refine XS.goto X3.here hx rfl (pc0 := 60) (pc' := 66) rfl (hb hby at_60) (by decide) (by decide) ?_
    refine XS.astore X3.here hx rfl (hb hby at_66) rfl rfl (l' := #[.val (.int p0), .val (.int p1), .val (.int p2), .val (.ref b138), .val (.int 4), .val (.int 0), .val (.ref a_PROVIDER), .unset, .unset, .unset]) rfl ?_
    refine XS.aloadN X3.here hx rfl (hb hby at_68) rfl rfl ?_
    refine XS.iload X3.here hx rfl (hb hby at_69) rfl ?_
    show Steps p.tables e below (T3.setTop (mkF m 71 #[.val (.int p0), .val (.int p1), .val (.int p2), .val (.ref b138), .val (.int 4), .val (.int 0), .val (.ref a_PROVIDER), .unset, .unset, .unset] [(.int 4), (.ref b138)])) _
    refine X3.aaload hx (j := (4 : Int32)) (v := (.ref a_TERMINATED)) (by rw [e3]; exact Ar4.1) (State.isArrayOf_alike hZ.alike Ar4.2.1) rfl Ar4.2.2 hin4 hat4 (g := (mkF m 71 #[.val (.int p0), .val (.int p1), .val (.int p2), .val (.ref b138), .val (.int 4), .val (.int 0), .val (.ref a_PROVIDER), .unset, .unset, .unset] [(.int 4), (.ref b138)])) rfl rfl (hb hby at_71) _ ?_
    refine XS.astore X3.here hx rfl (hb hby at_72) rfl rfl (l' := #[.val (.int p0), .val (.int p1), .val (.int p2), .val (.ref b138), .val (.int 4), .val (.int 0), .val (.ref a_PROVIDER), .val (.ref a_TERMINATED), .unset, .unset]) rfl ?_
    refine XS.aload X3.here hx rfl (hb hby at_74) rfl rfl ?_
    show Steps p.tables e below (T3.setTop (mkF m 76 #[.val (.int p0), .val (.int p1), .val (.int p2), .val (.ref b138), .val (.int 4), .val (.int 0), .val (.ref a_PROVIDER), .val (.ref a_TERMINATED), .unset, .unset] [(.ref a_TERMINATED)])) _
    refine st7.trans ?_
    refine XS.istore X7.here hx rfl (hb hby at_79) rfl (l' := #[.val (.int p0), .val (.int p1), .val (.int p2), .val (.ref b138), .val (.int 4), .val (.int 0), .val (.ref a_PROVIDER), .val (.ref a_TERMINATED), .val (.int 1), .unset]) rfl ?_
    refine XS.iload X7.here hx rfl (hb hby at_81) rfl ?_
    refine XS.iconst X7.here hx rfl (hb hby at_83) ?_
    refine XS.icmpNo X7.here hx rfl (hb hby at_84) rfl (by decide) ?_
    show Steps p.tables e below (T7.setTop (mkF m 87 #[.val (.int p0), .val (.int p1), .val (.int p2), .val (.ref b138), .val (.int 4), .val (.int 0), .val (.ref a_PROVIDER), .val (.ref a_TERMINATED), .val (.int 1), .unset] [])) _
    refine XS.iconst X7.here hx rfl (hb hby at_87) ?_
    refine XS.goto X7.here hx rfl (pc0 := 88) (pc' := 92) rfl (hb hby at_88) (by decide) (by decide) ?_
    refine XS.istore X7.here hx rfl (hb hby at_92) rfl (l' := #[.val (.int p0), .val (.int p1), .val (.int p2), .val (.ref b138), .val (.int 4), .val (.int 0), .val (.ref a_PROVIDER), .val (.ref a_TERMINATED), .val (.int 1), .val (.int 1)]) rfl ?_
    refine XS.iload X7.here hx rfl (hb hby at_94) rfl ?_
    refine XS.iload X7.here hx rfl (hb hby at_96) rfl ?_
    show Steps p.tables e below (T7.setTop (mkF m 98 #[.val (.int p0), .val (.int p1), .val (.int p2), .val (.ref b138), .val (.int 4), .val (.int 0), .val (.ref a_PROVIDER), .val (.ref a_TERMINATED), .val (.int 1), .val (.int 1)] [(.int 1), (.int 1)])) _
    refine XS.icmpYes X7.here hx rfl (pc0 := 98) (pc' := 103) rfl (hb hby at_98) rfl (by decide) (by decide) (by decide) ?_
    refine XS.iload X7.here hx rfl (hb hby at_103) rfl ?_
    refine XS.ifNo X7.here hx rfl (hb hby at_105) rfl (by decide) ?_
    refine XS.aload X7.here hx rfl (hb hby at_108) rfl rfl ?_
    refine XS.aloadN X7.here hx rfl (hb hby at_110) rfl rfl ?_
    show Steps p.tables e below (T7.setTop (mkF m 111 #[.val (.int p0), .val (.int p1), .val (.int p2), .val (.ref b138), .val (.int 4), .val (.int 0), .val (.ref a_PROVIDER), .val (.ref a_TERMINATED), .val (.int 1), .val (.int 1)] [(.ref b138), (.ref a_TERMINATED)])) _
    refine XS.iload X7.here hx rfl (hb hby at_111) rfl ?_
    show Steps p.tables e below (T7.setTop (mkF m 113 #[.val (.int p0), .val (.int p1), .val (.int p2), .val (.ref b138), .val (.int 4), .val (.int 0), .val (.ref a_PROVIDER), .val (.ref a_TERMINATED), .val (.int 1), .val (.int 1)] [(.int 0), (.ref b138), (.ref a_TERMINATED)])) _
    refine X7.aaload hx (j := (0 : Int32)) (v := (.ref a_REQUESTED)) (by rw [e7]; exact Ar9.1) (State.isArrayOf_alike hZ.alike Ar9.2.1) rfl Ar9.2.2 hin9 hat9 (g := (mkF m 113 #[.val (.int p0), .val (.int p1), .val (.int p2), .val (.ref b138), .val (.int 4), .val (.int 0), .val (.ref a_PROVIDER), .val (.ref a_TERMINATED), .val (.int 1), .val (.int 1)] [(.int 0), (.ref b138), (.ref a_TERMINATED)])) rfl rfl (hb hby at_113) _ ?_
    refine XS.aload X7.here hx rfl (hb hby at_114) rfl rfl ?_
    show Steps p.tables e below (T7.setTop (mkF m 116 #[.val (.int p0), .val (.int p1), .val (.int p2), .val (.ref b138), .val (.int 4), .val (.int 0), .val (.ref a_PROVIDER), .val (.ref a_TERMINATED), .val (.int 1), .val (.int 1)] [(.ref a_PROVIDER), (.ref a_REQUESTED), (.ref a_TERMINATED)])) _
    refine st12.trans ?_
    refine XS.ifYes X12.here hx rfl (pc0 := 119) (pc' := 124) rfl (hb hby at_119) rfl (by decide) (by decide) (by decide) ?_
    refine XS.iconst X12.here hx rfl (hb hby at_124) ?_
    show Steps p.tables e below (T12.setTop (mkF m 125 #[.val (.int p0), .val (.int p1), .val (.int p2), .val (.ref b138), .val (.int 4), .val (.int 0), .val (.ref a_PROVIDER), .val (.ref a_TERMINATED), .val (.int 1), .val (.int 1)] [(.int 1)])) _
    exact retN X12 hx (t := .boolean) Bd.returns (by simp) (hb hby at_125) hr
  · show QT n0 _ T12.heap _
    exact ⟨rfl, N12⟩
def Q2_150 (Z : State)  (h0 : Heap) (n0 : Nat) (v : Option Value) (h : Heap) (L : List Loc) : Prop := v = (some (.int 0)) ∧ Fr n0 L ∧ Keep h0 h []
set_option maxRecDepth 65536 in
set_option maxHeartbeats 40000000 in
theorem rm2_149 (l : Launch) (Z : State) (a0 : Array Value) (hw : ∀ d ∈ tables_1, d.before a0 Z = true) (ws : List Jvm.Cond) (a_TERMINATED : Addr) (a_STARTED : Addr) (a_CONSUMER : Addr) (a_REQUESTED : Addr) (a_SUSPENDED : Addr) (h0 : Heap) (n0 : Nat) (Z0 : n0 ≤ h0.size) (f1 : F_0 Z h0 a_STARTED (.int 1)) (f2 : E_0 Z h0 a_STARTED) (f3 : S_0 Z h0 (.ref a_REQUESTED)) (f4 : a_REQUESTED ≠ a_TERMINATED) (f5 : S_2 Z h0 (.ref a_SUSPENDED)) (f6 : a_TERMINATED ≠ a_SUSPENDED) :
    MetFree l M_4 (head1 (Jvm.Cond.code M_4 prog_6_method_5_code 3 (some .boolean) :: ws) R_1_4_32_13) (fun a U => a = #[(.ref a_TERMINATED), (.ref a_STARTED), (.ref a_CONSUMER)] ∧ Z.Warmed39 U.vm ∧ U.heap = h0) (fun _ _ _ _ _ => True) (fun _ U o U' => ∃ v L, o = .returned v ∧ Q2_150 Z  h0 n0 v U'.heap L ∧ ReturnedEndW U o U' L R_1_4_32_13.cells R_1_4_32_13.slots) := by
  refine MetFree.of_bodySF (plainFor_of_name pn_com_example_offer_offer_model_TransferState) hisR ?_
  intro p e s m args below meth c s₁ Bd hml0 hP hK
  obtain ⟨rfl, hZ, hh⟩ := hP
  have hx := Bd.exec
  have hby := Bd.bytes
  have hml : c.maxLocals = 3 := hml0
  have hown : s.vm.findClass "com/example/offer/offer/model/TransferState" = some m.cls := findClass_of_methodNamed Bd.named
  have hnm := (name_of_methodNamed Bd.named Bd.method).1
  have X0 : Stand p l e R_1_4_32_13 s m #[(.ref a_TERMINATED), (.ref a_STARTED), (.ref a_CONSUMER)] below meth c s₁ [] 0 0 := Stand.of_body Bd
  have e0 : s₁.heap = h0 := by rw [← hh, Bd.state]; rfl
  have N0 := Fr.nil n0
  obtain ⟨ax147, T1, h1, kz1, X1, e1, E1, hS1, hk1, hZ1, hown1, st1⟩ := ldcS (s := s) (vm0 := s.vm) X0 hx hZ hown (tw_32 hw) (own_strs hw) e0 ((State.WarmedH.refl s).since 0) (Nat.zero_le _) (g := (mkF m 1 #[.val (.ref a_TERMINATED), .val (.ref a_STARTED), .val (.ref a_CONSUMER)] [(.ref a_STARTED)])) rfl (hb hby d2_1) (n := 16) (by decide) (by decide) (by decide) (by decide)
  have KK1 : Keep h0 h1 [] := (Keep.refl h0 []).ext E1
  -- pc 3: java/util/Objects.requireNonNull
  obtain ⟨_, _, ⟨T2, L2, k2, n2⟩, -, X2, ⟨Lc2, hQ2, l2, y2, z2⟩, st2⟩ := Jvm.LawKit.callS X1 hx (y := M_1) hown1 (mvT hZ1 (tw_40 hw)) (mvT hZ1 (tw_41 hw)) (mvT hZ1 (tw_42 hw)) (mvT hZ1 (tw_43 hw)) (by decide) (backOf (W := 0) (rm3_69 l Z a0 hw [] a_STARTED ax147 h1 n0 (Nat.le_trans Z0 KK1.1) ) hZ1 (tw_43 hw) (tw_42 hw) (by decide) (by decide)) (g := (mkF m 3 #[.val (.ref a_TERMINATED), .val (.ref a_STARTED), .val (.ref a_CONSUMER)] [(.ref ax147), (.ref a_STARTED)])) rfl (by rw [hml]; rfl) (argsL := [(.ref a_STARTED), (.ref ax147)]) (rest := []) (lenOf pd_1 rfl) rfl (by show 2 * 0 + _ ≤ _; exact Nat.le_of_eq rfl) (hb hby d2_3) (fun _ _ => ⟨rfl, e1, (by decide : 2 + 0 ≤ _), (by decide : 20 + 0 ≤ _)⟩)
  dsimp only [Pt.U, Pt.locs, Pt.cells, Pt.slots] at X2 l2 y2 z2 st2 hQ2
  subst l2 y2 z2
  obtain ⟨rfl, Nq2, e2⟩ := hQ2
  have N2 := Fr.app N0 Nq2
  obtain ⟨ax148, T3, h3, kz3, X3, e3, E3, hS3, hk3, hZ3, hown3, st3⟩ := ldcS (s := s) (vm0 := T1.vm) X2 hx hZ1 hown1 (tw_44 hw) (own_strs hw) e2 hS1 hk1 (g := (mkF m 8 #[.val (.ref a_TERMINATED), .val (.ref a_STARTED), .val (.ref a_CONSUMER)] [(.ref a_CONSUMER)])) rfl (hb hby d2_8) (n := 8) (by decide) (by decide) (by decide) (by decide)
  have KK3 : Keep h0 h3 [] := KK1.ext E3
  -- pc 10: java/util/Objects.requireNonNull
  obtain ⟨_, _, ⟨T4, L4, k4, n4⟩, -, X4, ⟨Lc4, hQ4, l4, y4, z4⟩, st4⟩ := Jvm.LawKit.callS X3 hx (y := M_1) hown3 (mvT hZ3 (tw_40 hw)) (mvT hZ3 (tw_41 hw)) (mvT hZ3 (tw_42 hw)) (mvT hZ3 (tw_43 hw)) (by decide) (backOf (W := 0) (rm3_53 l Z a0 hw [] a_CONSUMER ax148 h3 n0 (Nat.le_trans Z0 KK3.1) ) hZ3 (tw_43 hw) (tw_42 hw) (by decide) (by decide)) (g := (mkF m 10 #[.val (.ref a_TERMINATED), .val (.ref a_STARTED), .val (.ref a_CONSUMER)] [(.ref ax148), (.ref a_CONSUMER)])) rfl (by rw [hml]; rfl) (argsL := [(.ref a_CONSUMER), (.ref ax148)]) (rest := []) (lenOf pd_1 rfl) rfl (by show 2 * 0 + _ ≤ _; exact Nat.le_of_eq rfl) (hb hby d2_10) (fun _ _ => ⟨rfl, e3, (by decide : 4 + 0 ≤ _), (by decide : 32 + 0 ≤ _)⟩)
  dsimp only [Pt.U, Pt.locs, Pt.cells, Pt.slots] at X4 l4 y4 z4 st4 hQ4
  subst l4 y4 z4
  obtain ⟨rfl, Nq4, e4⟩ := hQ4
  have N4 := Fr.app N2 Nq4
  -- pc 15: java/lang/Enum.ordinal
  have u5 : F_0 Z h1 a_STARTED (.int 1) := Fld.ext E1 f1
  have u6 : F_0 Z h3 a_STARTED (.int 1) := Fld.ext E3 u5
  have u8 : E_0 Z h1 a_STARTED := Exa.ext E1 f2
  have u9 : E_0 Z h3 a_STARTED := Exa.ext E3 u8
  obtain ⟨cq7, kq7, q7a, q7b, q7c⟩ := isOf hZ3 e4 u9
  obtain ⟨_, _, ⟨T7, L7, k7, n7⟩, -, X7, ⟨Lc7, hQ7, l7, y7, z7⟩, st7⟩ := X4.virtualBackUp hx (x := M_3) (y := M_2) (owner := "java/lang/Enum") hown3 (mvT hZ3 (tw_45 hw)) (mvT hZ3 (tw_46 hw)) (mvT hZ3 (tw_47 hw)) (by decide) (mvT hZ3 (tw_49 hw)) (mvT hZ3 (tw_48 hw)) (backOf (W := 0) (rm4_71 l Z a0 hw [] a_STARTED h3 n0 (Nat.le_trans Z0 KK3.1) u6) hZ3 (tw_51 hw) (tw_50 hw) (by decide) (by decide)) q7a q7c (g := (mkF m 15 #[.val (.ref a_TERMINATED), .val (.ref a_STARTED), .val (.ref a_CONSUMER)] [(.ref a_STARTED)])) rfl (by rw [hml]; rfl) (Steps.refl _) (argsL := []) (rest := []) (lenOf pd_2 rfl) rfl (by show 2 * 0 + _ ≤ _; exact Nat.le_of_eq rfl) (hb hby d2_15) (fun _ _ => ⟨rfl, e4, (by decide : 4 + 0 ≤ _), (by decide : 32 + 0 ≤ _)⟩)
  dsimp only [Pt.U, Pt.locs, Pt.cells, Pt.slots] at X7 l7 y7 z7 st7 hQ7
  subst l7 y7 z7
  obtain ⟨rfl, Nq7, e7⟩ := hQ7
  have N7 := Fr.app N4 Nq7
  have u10 : S_0 Z h1 (.ref a_REQUESTED) := Sta.ext E1 f3
  have u11 : S_0 Z h3 (.ref a_REQUESTED) := Sta.ext E3 u10
  obtain ⟨T12, X12, e12, st12⟩ := getS2 X7 hx hZ3 hown3 (host := "") (Or.inl (tw_55 hw)) Via.refl e7 u11 (g := (mkF m 67 #[.val (.ref a_TERMINATED), .val (.ref a_STARTED), .val (.ref a_CONSUMER)] [(.ref a_TERMINATED)])) rfl (hb hby d2_67)
  have u13 : S_2 Z h1 (.ref a_SUSPENDED) := Sta.ext E1 f5
  have u14 : S_2 Z h3 (.ref a_SUSPENDED) := Sta.ext E3 u13
  obtain ⟨T15, X15, e15, st15⟩ := getS2 X12 hx hZ3 hown3 (host := "") (Or.inl (tw_56 hw)) Via.refl e12 u14 (g := (mkF m 81 #[.val (.ref a_TERMINATED), .val (.ref a_STARTED), .val (.ref a_CONSUMER)] [(.ref a_TERMINATED)])) rfl (hb hby d2_81)
  obtain ⟨fs, hr, hrun, hended, hRE⟩ := X15.leaveW hS3 (by rw [e15]; exact hk3) (v := (some (.int 0))) (fun h => by rw [Bd.returns] at h; cases h)
  refine ⟨_, _, castTop (ef2_RRR m a_TERMINATED a_STARTED a_CONSUMER) ?_, hrun, hended, _, _, rfl, ?_, hRE.1, hRE.2.1, hRE.2.2.1, hRE.2.2.2.mono (by decide) (by decide)⟩
  · show Steps p.tables e below (s₁.setTop (mkF m 0 #[.val (.ref a_TERMINATED), .val (.ref a_STARTED), .val (.ref a_CONSUMER)] [])) _
    refine XS.aloadN X0.here hx rfl (hb hby d2_0) rfl rfl ?_
    show Steps p.tables e below (s₁.setTop (mkF m 1 #[.val (.ref a_TERMINATED), .val (.ref a_STARTED), .val (.ref a_CONSUMER)] [(.ref a_STARTED)])) _
    refine st1 _ ?_
    show Steps p.tables e below (T1.setTop (mkF m 3 #[.val (.ref a_TERMINATED), .val (.ref a_STARTED), .val (.ref a_CONSUMER)] [(.ref ax147), (.ref a_STARTED)])) _
    refine st2 _ ?_
    refine XS.pop X2.here hx rfl (hb hby d2_6) rfl rfl ?_
    refine XS.aloadN X2.here hx rfl (hb hby d2_7) rfl rfl ?_
    show Steps p.tables e below (T2.setTop (mkF m 8 #[.val (.ref a_TERMINATED), .val (.ref a_STARTED), .val (.ref a_CONSUMER)] [(.ref a_CONSUMER)])) _
    refine st3 _ ?_
    show Steps p.tables e below (T3.setTop (mkF m 10 #[.val (.ref a_TERMINATED), .val (.ref a_STARTED), .val (.ref a_CONSUMER)] [(.ref ax148), (.ref a_CONSUMER)])) _
    refine st4 _ ?_
    refine XS.pop X4.here hx rfl (hb hby d2_13) rfl rfl ?_
    refine XS.aloadN X4.here hx rfl (hb hby d2_14) rfl rfl ?_
    show Steps p.tables e below (T4.setTop (mkF m 15 #[.val (.ref a_TERMINATED), .val (.ref a_STARTED), .val (.ref a_CONSUMER)] [(.ref a_STARTED)])) _
    refine st7.trans ?_
    show Steps p.tables e below (T7.setTop (mkF m 18 #[.val (.ref a_TERMINATED), .val (.ref a_STARTED), .val (.ref a_CONSUMER)] [(.int 1)])) _
    refine XS.tswIn X7.here hx rfl (pc0 := 18) (pc' := 66) (o := 48) rfl (hb hby d2_18) rfl (by decide) (by decide) (by decide) (by decide) ?_
    refine XS.aloadN X7.here hx rfl (hb hby d2_66) rfl rfl ?_
    show Steps p.tables e below (T7.setTop (mkF m 67 #[.val (.ref a_TERMINATED), .val (.ref a_STARTED), .val (.ref a_CONSUMER)] [(.ref a_TERMINATED)])) _
    refine st12 _ ?_
    show Steps p.tables e below (T12.setTop (mkF m 70 #[.val (.ref a_TERMINATED), .val (.ref a_STARTED), .val (.ref a_CONSUMER)] [(.ref a_REQUESTED), (.ref a_TERMINATED)])) _
    refine Jvm.RoadKit.acmp (g := (mkF m 70 #[.val (.ref a_TERMINATED), .val (.ref a_STARTED), .val (.ref a_CONSUMER)] [(.ref a_REQUESTED), (.ref a_TERMINATED)])) X12 hx rfl rfl rfl (pc0 := 70) (pc' := 80) (same := false) rfl (hb hby d2_70) rfl (decide_eq_false fun q => (Ne.symm f4) (Value.ref.inj q)) (by decide) (by decide) ?_
    refine XS.aloadN X12.here hx rfl (hb hby d2_80) rfl rfl ?_
    show Steps p.tables e below (T12.setTop (mkF m 81 #[.val (.ref a_TERMINATED), .val (.ref a_STARTED), .val (.ref a_CONSUMER)] [(.ref a_TERMINATED)])) _
    refine st15 _ ?_
    show Steps p.tables e below (T15.setTop (mkF m 84 #[.val (.ref a_TERMINATED), .val (.ref a_STARTED), .val (.ref a_CONSUMER)] [(.ref a_SUSPENDED), (.ref a_TERMINATED)])) _
    refine Jvm.RoadKit.acmp (g := (mkF m 84 #[.val (.ref a_TERMINATED), .val (.ref a_STARTED), .val (.ref a_CONSUMER)] [(.ref a_SUSPENDED), (.ref a_TERMINATED)])) X15 hx rfl rfl rfl (pc0 := 84) (pc' := 91) (same := false) rfl (hb hby d2_84) rfl (decide_eq_false fun q => f6 (Value.ref.inj q)) (by decide) (by decide) ?_
    refine XS.iconst X15.here hx rfl (hb hby d2_91) ?_
    refine XS.goto X15.here hx rfl (pc0 := 92) (pc' := 122) rfl (hb hby d2_92) (by decide) (by decide) ?_
    show Steps p.tables e below (T15.setTop (mkF m 122 #[.val (.ref a_TERMINATED), .val (.ref a_STARTED), .val (.ref a_CONSUMER)] [(.int 0)])) _
    exact retN X15 hx (t := .boolean) Bd.returns (by simp) (hb hby d2_122) hr
  · show Q2_150 Z  h0 n0 _ T15.heap _
    rw [e15]
    exact ⟨rfl, N7, KK3⟩
set_option maxRecDepth 65536 in
set_option maxHeartbeats 40000000 in
theorem rm0_151 (l : Launch) (Z : State) (a0 : Array Value) (hw : ∀ d ∈ tables_1, d.before a0 Z = true) (ws : List Jvm.Cond) (p0 : Int32) (p1 : Int32) (p2 : Int32) (a_REQUESTED : Addr) (a_STARTED : Addr) (a_SUSPENDED : Addr) (a_COMPLETED : Addr) (a_TERMINATED : Addr) (a_CONSUMER : Addr) (h0 : Heap) (n0 : Nat) (Z0 : n0 ≤ h0.size) (f1 : S_0 Z h0 (.ref a_REQUESTED)) (f2 : E_0 Z h0 a_REQUESTED) (f3 : S_1 Z h0 (.ref a_STARTED)) (f4 : E_0 Z h0 a_STARTED) (f5 : S_2 Z h0 (.ref a_SUSPENDED)) (f6 : E_0 Z h0 a_SUSPENDED) (f7 : S_3 Z h0 (.ref a_COMPLETED)) (f8 : E_0 Z h0 a_COMPLETED) (f9 : S_4 Z h0 (.ref a_TERMINATED)) (f10 : E_0 Z h0 a_TERMINATED) (f11 : ((p0 &&& (2147483647 : Int32)) % (5 : Int32)) = (4 : Int32)) (f12 : ((p1 &&& (2147483647 : Int32)) % (5 : Int32)) = (1 : Int32)) (f13 : (p2 &&& (1 : Int32)) = (0 : Int32)) (f14 : S_5 Z h0 (.ref a_CONSUMER)) (f15 : a_COMPLETED ≠ a_TERMINATED) (f16 : F_0 Z h0 a_STARTED (.int 1)) (f17 : a_REQUESTED ≠ a_TERMINATED) (f18 : a_TERMINATED ≠ a_SUSPENDED) :
    MetFree l x (head1 (Jvm.Cond.code x code maxLocals ret :: ws) room_1) (fun a U => a = #[(.int p0), (.int p1), (.int p2)] ∧ Z.Warmed39 U.vm ∧ U.heap = h0) (fun _ _ _ _ _ => True) (fun _ U o U' => ∃ v L, o = .returned v ∧ QT n0 v U'.heap L ∧ ReturnedEndW U o U' L room_1.cells room_1.slots) := by
  refine MetFree.of_bodySF (plainFor_of_name pn_com_example_offer_offer_model_TransferStateIsFinalPinLaw) hisR ?_
  intro p e s m args below meth c s₁ Bd hml0 hP hK
  obtain ⟨rfl, hZ, hh⟩ := hP
  have hx := Bd.exec
  have hby := Bd.bytes
  have hml : c.maxLocals = 10 := hml0
  have hown : s.vm.findClass "com/example/offer/offer/model/TransferStateIsFinalPinLaw" = some m.cls := findClass_of_methodNamed Bd.named
  have hnm := (name_of_methodNamed Bd.named Bd.method).1
  have X0 : Stand p l e room_1 s m #[(.int p0), (.int p1), (.int p2)] below meth c s₁ [] 0 0 := Stand.of_body Bd
  have e0 : s₁.heap = h0 := by rw [← hh, Bd.state]; rfl
  have N0 := Fr.nil n0
  obtain ⟨T1, h1, L1, b145, kc146, X1, e1, N1, K1, le_b145, o1_0, o1_1, st1⟩ := sg0_25 p0 p1 p2 a_REQUESTED a_STARTED a_SUSPENDED a_COMPLETED a_TERMINATED X0 hx hZ hw hby hml hown e0 N0 Z0 f1 f2 f3 f4 f5 f6 f7 f8 f9 f10
  have sz_b145 : h0.size ≤ b145 := Nat.le_trans (Nat.le_refl _) le_b145
  have g_b145 : n0 ≤ b145 := Nat.le_trans Z0 sz_b145
  have KK1 : Keep h0 h1 [] := (Keep.refl h0 []).trans K1 (fun x hx => nomatch hx)
  have u2 : S_5 Z h1 (.ref a_CONSUMER) := own_sta_keep f14 K1 (fun _ q => nomatch q)
  obtain ⟨T3, X3, e3, st3⟩ := getS2 X1 hx hZ hown (host := "") (Or.inl (tw_15 hw)) Via.refl e1 u2 (g := (mkF m 63 #[.val (.int p0), .val (.int p1), .val (.int p2), .val (.ref b145), .val (.int 4), .val (.int 1), .unset, .unset, .unset, .unset] [])) rfl (hb hby at_63)
  have va4 := o1_0
  obtain ⟨cl4, Ar4, -, S4, -, H4, -⟩ := va4
  have hin4 : ¬ ((4 : Int32) < 0 ∨ cl4.slots.size ≤ ((4 : Int32)).toNatClampNeg) := inb_of S4 ⟨by decide, by decide⟩
  have hat4 : cl4.slots[((4 : Int32)).toNatClampNeg]? = some (.ref a_TERMINATED) := H4 _ (Nat.lt_of_not_le fun y => hin4 (Or.inr y))
  -- pc 76: com/example/offer/offer/model/TransferState.isFinal
  have u5 : S_3 Z h1 (.ref a_COMPLETED) := own_sta_keep f7 K1 (fun _ q => nomatch q)
  have u6 : S_4 Z h1 (.ref a_TERMINATED) := own_sta_keep f9 K1 (fun _ q => nomatch q)
  have u8 : E_0 Z h1 a_TERMINATED := Exa.keep f10 K1
  obtain ⟨cq7, kq7, q7a, q7b, q7c⟩ := isOf hZ e3 u8
  obtain ⟨_, _, ⟨T7, L7, k7, n7⟩, -, X7, ⟨Lc7, hQ7, l7, y7, z7⟩, st7⟩ := X3.virtualBack hx (y := M_0) (z := M_0) hown (mvT hZ (tw_18 hw)) (mvT hZ (tw_19 hw)) (notFace_of_selects (args := #[]) (mvT hZ (tw_21 hw))) (mvT hZ (tw_21 hw)) (mvT hZ (tw_20 hw)) (by decide) (backOf (W := 0) (rm1_132 l Z a0 hw [] a_TERMINATED a_COMPLETED h1 n0 (Nat.le_trans Z0 KK1.1) u5 f15 u6) hZ (tw_22 hw) (tw_3 hw) (by decide) (by decide)) q7a q7c (g := (mkF m 76 #[.val (.int p0), .val (.int p1), .val (.int p2), .val (.ref b145), .val (.int 4), .val (.int 1), .val (.ref a_CONSUMER), .val (.ref a_TERMINATED), .unset, .unset] [(.ref a_TERMINATED)])) rfl (by rw [hml]; rfl) (Steps.refl _) (argsL := []) (rest := []) (lenOf pd_0 rfl) rfl (by show 2 * 0 + _ ≤ _; exact Nat.le_of_eq rfl) (hb hby at_76) (fun _ _ => ⟨rfl, e3, (by decide : 1 + 0 ≤ _), (by decide : 5 + 0 ≤ _)⟩)
  dsimp only [Pt.U, Pt.locs, Pt.cells, Pt.slots] at X7 l7 y7 z7 st7 hQ7
  subst l7 y7 z7
  obtain ⟨rfl, Nq7, e7⟩ := hQ7
  have N7 := Fr.app N1 Nq7
  have va9 := o1_0
  obtain ⟨cl9, Ar9, -, S9, -, H9, -⟩ := va9
  have hin9 : ¬ ((1 : Int32) < 0 ∨ cl9.slots.size ≤ ((1 : Int32)).toNatClampNeg) := inb_of S9 ⟨by decide, by decide⟩
  have hat9 : cl9.slots[((1 : Int32)).toNatClampNeg]? = some (.ref a_STARTED) := H9 _ (Nat.lt_of_not_le fun y => hin9 (Or.inr y))
  -- pc 116: com/example/offer/offer/model/TransferState.canMoveTo
  have u10 : F_0 Z h1 a_STARTED (.int 1) := Fld.keep f16 K1 List.not_mem_nil
  have u11 : E_0 Z h1 a_STARTED := Exa.keep f4 K1
  have u12 : S_0 Z h1 (.ref a_REQUESTED) := own_sta_keep f1 K1 (fun _ q => nomatch q)
  have u13 : S_2 Z h1 (.ref a_SUSPENDED) := own_sta_keep f5 K1 (fun _ q => nomatch q)
  obtain ⟨cq14, kq14, q14a, q14b, q14c⟩ := isOf hZ e7 u8
  obtain ⟨_, _, ⟨T14, L14, k14, n14⟩, -, X14, hS14, hg14, ⟨Lc14, hQ14, l14, y14, z14⟩, st14⟩ := X7.virtualBackS hx (y := M_4) (z := M_4) hown (mvT hZ (tw_27 hw)) (mvT hZ (tw_28 hw)) (notFace_of_selects (args := #[]) (mvT hZ (tw_30 hw))) (mvT hZ (tw_30 hw)) (mvT hZ (tw_29 hw)) (by decide) (backOfS (W := 0) (rm2_149 l Z a0 hw [] a_TERMINATED a_STARTED a_CONSUMER a_REQUESTED a_SUSPENDED h1 n0 (Nat.le_trans Z0 KK1.1) u10 u11 u12 f17 u13 f18) hZ (tw_31 hw) (tw_3 hw) (by decide) (by decide)) q14a q14c (g := (mkF m 116 #[.val (.int p0), .val (.int p1), .val (.int p2), .val (.ref b145), .val (.int 4), .val (.int 1), .val (.ref a_CONSUMER), .val (.ref a_TERMINATED), .val (.int 1), .val (.int 1)] [(.ref a_CONSUMER), (.ref a_STARTED), (.ref a_TERMINATED)])) rfl (by rw [hml]; rfl) (Steps.refl _) (argsL := [(.ref a_STARTED), (.ref a_CONSUMER)]) (rest := []) (lenOf pd_3 rfl) rfl (by show 2 * 0 + _ ≤ _; exact Nat.le_of_eq rfl) (hb hby at_116) (fun _ _ => ⟨rfl, e7, (by decide : 1 + 4 ≤ _), (by decide : 5 + 32 ≤ _)⟩)
  dsimp only [Pt.U, Pt.locs, Pt.cells, Pt.slots] at X14 l14 y14 z14 st14 hQ14 hS14 hg14
  subst l14 y14 z14
  have hZ14 : Z.Warmed39 (s.setVm T14.vm).vm := State.Warmed39.trans hZ hS14.1
  have hown14 : (s.setVm T14.vm).vm.findClass "com/example/offer/offer/model/TransferStateIsFinalPinLaw" = some m.cls := by rw [show (s.setVm T14.vm).vm = T14.vm from rfl, hS14.1.alike.findClass]; exact hown
  obtain ⟨rfl, Nq14, K14⟩ := hQ14
  have N14 := Fr.app N7 Nq14
  have KK14 : Keep h0 T14.heap [] := KK1.trans K14 (fun x hx => nomatch hx)
  obtain ⟨fs, hr, hrun, hended, hRE⟩ := X14.leaveW hS14 (by exact (Nat.le_refl _)) (v := (some (.int 1))) (fun h => by rw [Bd.returns] at h; cases h)
  refine ⟨_, _, castTop (ef0_III m p0 p1 p2) ?_, hrun, hended, _, _, rfl, ?_, hRE.1, hRE.2.1, hRE.2.2.1, hRE.2.2.2.mono (by decide) (by decide)⟩
  · show Steps p.tables e below (s₁.setTop (mkF m 0 #[.val (.int p0), .val (.int p1), .val (.int p2), .unset, .unset, .unset, .unset, .unset, .unset, .unset] [])) _
    refine st1 _ ?_
    refine XS.iloadN X1.here hx rfl (hb hby at_35) rfl ?_
    show Steps p.tables e below (T1.setTop (mkF m 36 #[.val (.int p0), .val (.int p1), .val (.int p2), .val (.ref b145), .unset, .unset, .unset, .unset, .unset, .unset] [(.int p0)])) _
    refine X1.ldcInt hx hown (mvT hZ (tw_14 hw)) (g := (mkF m 36 #[.val (.int p0), .val (.int p1), .val (.int p2), .val (.ref b145), .unset, .unset, .unset, .unset, .unset, .unset] [(.int p0)])) rfl (hb hby at_36) _ ?_
    show Steps p.tables e below (T1.setTop (mkF m 38 #[.val (.int p0), .val (.int p1), .val (.int p2), .val (.ref b145), .unset, .unset, .unset, .unset, .unset, .unset] [(.int 2147483647), (.int p0)])) _
    refine XS.iand X1.here hx rfl (hb hby at_38) rfl ?_
    refine XS.iconst X1.here hx rfl (hb hby at_39) ?_
    show Steps p.tables e below (T1.setTop (mkF m 40 #[.val (.int p0), .val (.int p1), .val (.int p2), .val (.ref b145), .unset, .unset, .unset, .unset, .unset, .unset] [(.int 5), (.int (p0 &&& (2147483647 : Int32)))])) _
    refine iremM X1 hx rfl (hb hby at_40) rfl (by decide) ?_
    show Steps p.tables e below (T1.setTop (mkF m 41 #[.val (.int p0), .val (.int p1), .val (.int p2), .val (.ref b145), .unset, .unset, .unset, .unset, .unset, .unset] [(.int ((p0 &&& (2147483647 : Int32)) % (5 : Int32)))])) _
    rw [f11]
    refine XS.istore X1.here hx rfl (hb hby at_41) rfl (l' := #[.val (.int p0), .val (.int p1), .val (.int p2), .val (.ref b145), .val (.int 4), .unset, .unset, .unset, .unset, .unset]) rfl ?_
    refine XS.iloadN X1.here hx rfl (hb hby at_43) rfl ?_
    show Steps p.tables e below (T1.setTop (mkF m 44 #[.val (.int p0), .val (.int p1), .val (.int p2), .val (.ref b145), .val (.int 4), .unset, .unset, .unset, .unset, .unset] [(.int p1)])) _
    refine X1.ldcInt hx hown (mvT hZ (tw_14 hw)) (g := (mkF m 44 #[.val (.int p0), .val (.int p1), .val (.int p2), .val (.ref b145), .val (.int 4), .unset, .unset, .unset, .unset, .unset] [(.int p1)])) rfl (hb hby at_44) _ ?_
    show Steps p.tables e below (T1.setTop (mkF m 46 #[.val (.int p0), .val (.int p1), .val (.int p2), .val (.ref b145), .val (.int 4), .unset, .unset, .unset, .unset, .unset] [(.int 2147483647), (.int p1)])) _
    refine XS.iand X1.here hx rfl (hb hby at_46) rfl ?_
    refine XS.iconst X1.here hx rfl (hb hby at_47) ?_
    show Steps p.tables e below (T1.setTop (mkF m 48 #[.val (.int p0), .val (.int p1), .val (.int p2), .val (.ref b145), .val (.int 4), .unset, .unset, .unset, .unset, .unset] [(.int 5), (.int (p1 &&& (2147483647 : Int32)))])) _
    refine iremM X1 hx rfl (hb hby at_48) rfl (by decide) ?_
    show Steps p.tables e below (T1.setTop (mkF m 49 #[.val (.int p0), .val (.int p1), .val (.int p2), .val (.ref b145), .val (.int 4), .unset, .unset, .unset, .unset, .unset] [(.int ((p1 &&& (2147483647 : Int32)) % (5 : Int32)))])) _
    rw [f12]
    refine XS.istore X1.here hx rfl (hb hby at_49) rfl (l' := #[.val (.int p0), .val (.int p1), .val (.int p2), .val (.ref b145), .val (.int 4), .val (.int 1), .unset, .unset, .unset, .unset]) rfl ?_
    refine XS.iloadN X1.here hx rfl (hb hby at_51) rfl ?_
    refine XS.iconst X1.here hx rfl (hb hby at_52) ?_
    show Steps p.tables e below (T1.setTop (mkF m 53 #[.val (.int p0), .val (.int p1), .val (.int p2), .val (.ref b145), .val (.int 4), .val (.int 1), .unset, .unset, .unset, .unset] [(.int 1), (.int p2)])) _
    refine XS.iand X1.here hx rfl (hb hby at_53) rfl ?_
    refine XS.ifYes X1.here hx rfl (pc0 := 54) (pc' := 63) rfl (hb hby at_54) rfl ((if0 _ _).trans (teq (f13 : (p2 &&& (1 : Int32)) = (0 : Int32))).1) (by decide) (by decide) ?_
    show Steps p.tables e below (T1.setTop (mkF m 63 #[.val (.int p0), .val (.int p1), .val (.int p2), .val (.ref b145), .val (.int 4), .val (.int 1), .unset, .unset, .unset, .unset] [])) _
    refine st3 _ ?_
    refine XS.astore X3.here hx rfl (hb hby at_66) rfl rfl (l' := #[.val (.int p0), .val (.int p1), .val (.int p2), .val (.ref b145), .val (.int 4), .val (.int 1), .val (.ref a_CONSUMER), .unset, .unset, .unset]) rfl ?_
    refine XS.aloadN X3.here hx rfl (hb hby at_68) rfl rfl ?_
    refine XS.iload X3.here hx rfl (hb hby at_69) rfl ?_
    show Steps p.tables e below (T3.setTop (mkF m 71 #[.val (.int p0), .val (.int p1), .val (.int p2), .val (.ref b145), .val (.int 4), .val (.int 1), .val (.ref a_CONSUMER), .unset, .unset, .unset] [(.int 4), (.ref b145)])) _
    refine X3.aaload hx (j := (4 : Int32)) (v := (.ref a_TERMINATED)) (by rw [e3]; exact Ar4.1) (State.isArrayOf_alike hZ.alike Ar4.2.1) rfl Ar4.2.2 hin4 hat4 (g := (mkF m 71 #[.val (.int p0), .val (.int p1), .val (.int p2), .val (.ref b145), .val (.int 4), .val (.int 1), .val (.ref a_CONSUMER), .unset, .unset, .unset] [(.int 4), (.ref b145)])) rfl rfl (hb hby at_71) _ ?_
    refine XS.astore X3.here hx rfl (hb hby at_72) rfl rfl (l' := #[.val (.int p0), .val (.int p1), .val (.int p2), .val (.ref b145), .val (.int 4), .val (.int 1), .val (.ref a_CONSUMER), .val (.ref a_TERMINATED), .unset, .unset]) rfl ?_
    refine XS.aload X3.here hx rfl (hb hby at_74) rfl rfl ?_
    show Steps p.tables e below (T3.setTop (mkF m 76 #[.val (.int p0), .val (.int p1), .val (.int p2), .val (.ref b145), .val (.int 4), .val (.int 1), .val (.ref a_CONSUMER), .val (.ref a_TERMINATED), .unset, .unset] [(.ref a_TERMINATED)])) _
    refine st7.trans ?_
    refine XS.istore X7.here hx rfl (hb hby at_79) rfl (l' := #[.val (.int p0), .val (.int p1), .val (.int p2), .val (.ref b145), .val (.int 4), .val (.int 1), .val (.ref a_CONSUMER), .val (.ref a_TERMINATED), .val (.int 1), .unset]) rfl ?_
    refine XS.iload X7.here hx rfl (hb hby at_81) rfl ?_
    refine XS.iconst X7.here hx rfl (hb hby at_83) ?_
    refine XS.icmpNo X7.here hx rfl (hb hby at_84) rfl (by decide) ?_
    show Steps p.tables e below (T7.setTop (mkF m 87 #[.val (.int p0), .val (.int p1), .val (.int p2), .val (.ref b145), .val (.int 4), .val (.int 1), .val (.ref a_CONSUMER), .val (.ref a_TERMINATED), .val (.int 1), .unset] [])) _
    refine XS.iconst X7.here hx rfl (hb hby at_87) ?_
    refine XS.goto X7.here hx rfl (pc0 := 88) (pc' := 92) rfl (hb hby at_88) (by decide) (by decide) ?_
    refine XS.istore X7.here hx rfl (hb hby at_92) rfl (l' := #[.val (.int p0), .val (.int p1), .val (.int p2), .val (.ref b145), .val (.int 4), .val (.int 1), .val (.ref a_CONSUMER), .val (.ref a_TERMINATED), .val (.int 1), .val (.int 1)]) rfl ?_
    refine XS.iload X7.here hx rfl (hb hby at_94) rfl ?_
    refine XS.iload X7.here hx rfl (hb hby at_96) rfl ?_
    show Steps p.tables e below (T7.setTop (mkF m 98 #[.val (.int p0), .val (.int p1), .val (.int p2), .val (.ref b145), .val (.int 4), .val (.int 1), .val (.ref a_CONSUMER), .val (.ref a_TERMINATED), .val (.int 1), .val (.int 1)] [(.int 1), (.int 1)])) _
    refine XS.icmpYes X7.here hx rfl (pc0 := 98) (pc' := 103) rfl (hb hby at_98) rfl (by decide) (by decide) (by decide) ?_
    refine XS.iload X7.here hx rfl (hb hby at_103) rfl ?_
    refine XS.ifNo X7.here hx rfl (hb hby at_105) rfl (by decide) ?_
    refine XS.aload X7.here hx rfl (hb hby at_108) rfl rfl ?_
    refine XS.aloadN X7.here hx rfl (hb hby at_110) rfl rfl ?_
    show Steps p.tables e below (T7.setTop (mkF m 111 #[.val (.int p0), .val (.int p1), .val (.int p2), .val (.ref b145), .val (.int 4), .val (.int 1), .val (.ref a_CONSUMER), .val (.ref a_TERMINATED), .val (.int 1), .val (.int 1)] [(.ref b145), (.ref a_TERMINATED)])) _
    refine XS.iload X7.here hx rfl (hb hby at_111) rfl ?_
    show Steps p.tables e below (T7.setTop (mkF m 113 #[.val (.int p0), .val (.int p1), .val (.int p2), .val (.ref b145), .val (.int 4), .val (.int 1), .val (.ref a_CONSUMER), .val (.ref a_TERMINATED), .val (.int 1), .val (.int 1)] [(.int 1), (.ref b145), (.ref a_TERMINATED)])) _
    refine X7.aaload hx (j := (1 : Int32)) (v := (.ref a_STARTED)) (by rw [e7]; exact Ar9.1) (State.isArrayOf_alike hZ.alike Ar9.2.1) rfl Ar9.2.2 hin9 hat9 (g := (mkF m 113 #[.val (.int p0), .val (.int p1), .val (.int p2), .val (.ref b145), .val (.int 4), .val (.int 1), .val (.ref a_CONSUMER), .val (.ref a_TERMINATED), .val (.int 1), .val (.int 1)] [(.int 1), (.ref b145), (.ref a_TERMINATED)])) rfl rfl (hb hby at_113) _ ?_
    refine XS.aload X7.here hx rfl (hb hby at_114) rfl rfl ?_
    show Steps p.tables e below (T7.setTop (mkF m 116 #[.val (.int p0), .val (.int p1), .val (.int p2), .val (.ref b145), .val (.int 4), .val (.int 1), .val (.ref a_CONSUMER), .val (.ref a_TERMINATED), .val (.int 1), .val (.int 1)] [(.ref a_CONSUMER), (.ref a_STARTED), (.ref a_TERMINATED)])) _
    refine st14.trans ?_
    refine XS.ifYes X14.here hx rfl (pc0 := 119) (pc' := 124) rfl (hb hby at_119) rfl (by decide) (by decide) (by decide) ?_
    refine XS.iconst X14.here hx rfl (hb hby at_124) ?_
    show Steps p.tables e below (T14.setTop (mkF m 125 #[.val (.int p0), .val (.int p1), .val (.int p2), .val (.ref b145), .val (.int 4), .val (.int 1), .val (.ref a_CONSUMER), .val (.ref a_TERMINATED), .val (.int 1), .val (.int 1)] [(.int 1)])) _
    exact retN X14 hx (t := .boolean) Bd.returns (by simp) (hb hby at_125) hr
  · show QT n0 _ T14.heap _
    exact ⟨rfl, N14⟩
def Q2_157 (Z : State)  (h0 : Heap) (n0 : Nat) (v : Option Value) (h : Heap) (L : List Loc) : Prop := v = (some (.int 0)) ∧ Fr n0 L ∧ Keep h0 h []
set_option maxRecDepth 65536 in
set_option maxHeartbeats 40000000 in
theorem rm2_156 (l : Launch) (Z : State) (a0 : Array Value) (hw : ∀ d ∈ tables_1, d.before a0 Z = true) (ws : List Jvm.Cond) (a_TERMINATED : Addr) (a_STARTED : Addr) (a_PROVIDER : Addr) (a_REQUESTED : Addr) (a_SUSPENDED : Addr) (h0 : Heap) (n0 : Nat) (Z0 : n0 ≤ h0.size) (f1 : F_0 Z h0 a_STARTED (.int 1)) (f2 : E_0 Z h0 a_STARTED) (f3 : S_0 Z h0 (.ref a_REQUESTED)) (f4 : a_REQUESTED ≠ a_TERMINATED) (f5 : S_2 Z h0 (.ref a_SUSPENDED)) (f6 : a_TERMINATED ≠ a_SUSPENDED) :
    MetFree l M_4 (head1 (Jvm.Cond.code M_4 prog_6_method_5_code 3 (some .boolean) :: ws) R_1_4_32_13) (fun a U => a = #[(.ref a_TERMINATED), (.ref a_STARTED), (.ref a_PROVIDER)] ∧ Z.Warmed39 U.vm ∧ U.heap = h0) (fun _ _ _ _ _ => True) (fun _ U o U' => ∃ v L, o = .returned v ∧ Q2_157 Z  h0 n0 v U'.heap L ∧ ReturnedEndW U o U' L R_1_4_32_13.cells R_1_4_32_13.slots) := by
  refine MetFree.of_bodySF (plainFor_of_name pn_com_example_offer_offer_model_TransferState) hisR ?_
  intro p e s m args below meth c s₁ Bd hml0 hP hK
  obtain ⟨rfl, hZ, hh⟩ := hP
  have hx := Bd.exec
  have hby := Bd.bytes
  have hml : c.maxLocals = 3 := hml0
  have hown : s.vm.findClass "com/example/offer/offer/model/TransferState" = some m.cls := findClass_of_methodNamed Bd.named
  have hnm := (name_of_methodNamed Bd.named Bd.method).1
  have X0 : Stand p l e R_1_4_32_13 s m #[(.ref a_TERMINATED), (.ref a_STARTED), (.ref a_PROVIDER)] below meth c s₁ [] 0 0 := Stand.of_body Bd
  have e0 : s₁.heap = h0 := by rw [← hh, Bd.state]; rfl
  have N0 := Fr.nil n0
  obtain ⟨ax154, T1, h1, kz1, X1, e1, E1, hS1, hk1, hZ1, hown1, st1⟩ := ldcS (s := s) (vm0 := s.vm) X0 hx hZ hown (tw_32 hw) (own_strs hw) e0 ((State.WarmedH.refl s).since 0) (Nat.zero_le _) (g := (mkF m 1 #[.val (.ref a_TERMINATED), .val (.ref a_STARTED), .val (.ref a_PROVIDER)] [(.ref a_STARTED)])) rfl (hb hby d2_1) (n := 16) (by decide) (by decide) (by decide) (by decide)
  have KK1 : Keep h0 h1 [] := (Keep.refl h0 []).ext E1
  -- pc 3: java/util/Objects.requireNonNull
  obtain ⟨_, _, ⟨T2, L2, k2, n2⟩, -, X2, ⟨Lc2, hQ2, l2, y2, z2⟩, st2⟩ := Jvm.LawKit.callS X1 hx (y := M_1) hown1 (mvT hZ1 (tw_40 hw)) (mvT hZ1 (tw_41 hw)) (mvT hZ1 (tw_42 hw)) (mvT hZ1 (tw_43 hw)) (by decide) (backOf (W := 0) (rm3_69 l Z a0 hw [] a_STARTED ax154 h1 n0 (Nat.le_trans Z0 KK1.1) ) hZ1 (tw_43 hw) (tw_42 hw) (by decide) (by decide)) (g := (mkF m 3 #[.val (.ref a_TERMINATED), .val (.ref a_STARTED), .val (.ref a_PROVIDER)] [(.ref ax154), (.ref a_STARTED)])) rfl (by rw [hml]; rfl) (argsL := [(.ref a_STARTED), (.ref ax154)]) (rest := []) (lenOf pd_1 rfl) rfl (by show 2 * 0 + _ ≤ _; exact Nat.le_of_eq rfl) (hb hby d2_3) (fun _ _ => ⟨rfl, e1, (by decide : 2 + 0 ≤ _), (by decide : 20 + 0 ≤ _)⟩)
  dsimp only [Pt.U, Pt.locs, Pt.cells, Pt.slots] at X2 l2 y2 z2 st2 hQ2
  subst l2 y2 z2
  obtain ⟨rfl, Nq2, e2⟩ := hQ2
  have N2 := Fr.app N0 Nq2
  obtain ⟨ax155, T3, h3, kz3, X3, e3, E3, hS3, hk3, hZ3, hown3, st3⟩ := ldcS (s := s) (vm0 := T1.vm) X2 hx hZ1 hown1 (tw_44 hw) (own_strs hw) e2 hS1 hk1 (g := (mkF m 8 #[.val (.ref a_TERMINATED), .val (.ref a_STARTED), .val (.ref a_PROVIDER)] [(.ref a_PROVIDER)])) rfl (hb hby d2_8) (n := 8) (by decide) (by decide) (by decide) (by decide)
  have KK3 : Keep h0 h3 [] := KK1.ext E3
  -- pc 10: java/util/Objects.requireNonNull
  obtain ⟨_, _, ⟨T4, L4, k4, n4⟩, -, X4, ⟨Lc4, hQ4, l4, y4, z4⟩, st4⟩ := Jvm.LawKit.callS X3 hx (y := M_1) hown3 (mvT hZ3 (tw_40 hw)) (mvT hZ3 (tw_41 hw)) (mvT hZ3 (tw_42 hw)) (mvT hZ3 (tw_43 hw)) (by decide) (backOf (W := 0) (rm3_62 l Z a0 hw [] a_PROVIDER ax155 h3 n0 (Nat.le_trans Z0 KK3.1) ) hZ3 (tw_43 hw) (tw_42 hw) (by decide) (by decide)) (g := (mkF m 10 #[.val (.ref a_TERMINATED), .val (.ref a_STARTED), .val (.ref a_PROVIDER)] [(.ref ax155), (.ref a_PROVIDER)])) rfl (by rw [hml]; rfl) (argsL := [(.ref a_PROVIDER), (.ref ax155)]) (rest := []) (lenOf pd_1 rfl) rfl (by show 2 * 0 + _ ≤ _; exact Nat.le_of_eq rfl) (hb hby d2_10) (fun _ _ => ⟨rfl, e3, (by decide : 4 + 0 ≤ _), (by decide : 32 + 0 ≤ _)⟩)
  dsimp only [Pt.U, Pt.locs, Pt.cells, Pt.slots] at X4 l4 y4 z4 st4 hQ4
  subst l4 y4 z4
  obtain ⟨rfl, Nq4, e4⟩ := hQ4
  have N4 := Fr.app N2 Nq4
  -- pc 15: java/lang/Enum.ordinal
  have u5 : F_0 Z h1 a_STARTED (.int 1) := Fld.ext E1 f1
  have u6 : F_0 Z h3 a_STARTED (.int 1) := Fld.ext E3 u5
  have u8 : E_0 Z h1 a_STARTED := Exa.ext E1 f2
  have u9 : E_0 Z h3 a_STARTED := Exa.ext E3 u8
  obtain ⟨cq7, kq7, q7a, q7b, q7c⟩ := isOf hZ3 e4 u9
  obtain ⟨_, _, ⟨T7, L7, k7, n7⟩, -, X7, ⟨Lc7, hQ7, l7, y7, z7⟩, st7⟩ := X4.virtualBackUp hx (x := M_3) (y := M_2) (owner := "java/lang/Enum") hown3 (mvT hZ3 (tw_45 hw)) (mvT hZ3 (tw_46 hw)) (mvT hZ3 (tw_47 hw)) (by decide) (mvT hZ3 (tw_49 hw)) (mvT hZ3 (tw_48 hw)) (backOf (W := 0) (rm4_71 l Z a0 hw [] a_STARTED h3 n0 (Nat.le_trans Z0 KK3.1) u6) hZ3 (tw_51 hw) (tw_50 hw) (by decide) (by decide)) q7a q7c (g := (mkF m 15 #[.val (.ref a_TERMINATED), .val (.ref a_STARTED), .val (.ref a_PROVIDER)] [(.ref a_STARTED)])) rfl (by rw [hml]; rfl) (Steps.refl _) (argsL := []) (rest := []) (lenOf pd_2 rfl) rfl (by show 2 * 0 + _ ≤ _; exact Nat.le_of_eq rfl) (hb hby d2_15) (fun _ _ => ⟨rfl, e4, (by decide : 4 + 0 ≤ _), (by decide : 32 + 0 ≤ _)⟩)
  dsimp only [Pt.U, Pt.locs, Pt.cells, Pt.slots] at X7 l7 y7 z7 st7 hQ7
  subst l7 y7 z7
  obtain ⟨rfl, Nq7, e7⟩ := hQ7
  have N7 := Fr.app N4 Nq7
  have u10 : S_0 Z h1 (.ref a_REQUESTED) := Sta.ext E1 f3
  have u11 : S_0 Z h3 (.ref a_REQUESTED) := Sta.ext E3 u10
  obtain ⟨T12, X12, e12, st12⟩ := getS2 X7 hx hZ3 hown3 (host := "") (Or.inl (tw_55 hw)) Via.refl e7 u11 (g := (mkF m 67 #[.val (.ref a_TERMINATED), .val (.ref a_STARTED), .val (.ref a_PROVIDER)] [(.ref a_TERMINATED)])) rfl (hb hby d2_67)
  have u13 : S_2 Z h1 (.ref a_SUSPENDED) := Sta.ext E1 f5
  have u14 : S_2 Z h3 (.ref a_SUSPENDED) := Sta.ext E3 u13
  obtain ⟨T15, X15, e15, st15⟩ := getS2 X12 hx hZ3 hown3 (host := "") (Or.inl (tw_56 hw)) Via.refl e12 u14 (g := (mkF m 81 #[.val (.ref a_TERMINATED), .val (.ref a_STARTED), .val (.ref a_PROVIDER)] [(.ref a_TERMINATED)])) rfl (hb hby d2_81)
  obtain ⟨fs, hr, hrun, hended, hRE⟩ := X15.leaveW hS3 (by rw [e15]; exact hk3) (v := (some (.int 0))) (fun h => by rw [Bd.returns] at h; cases h)
  refine ⟨_, _, castTop (ef2_RRR m a_TERMINATED a_STARTED a_PROVIDER) ?_, hrun, hended, _, _, rfl, ?_, hRE.1, hRE.2.1, hRE.2.2.1, hRE.2.2.2.mono (by decide) (by decide)⟩
  · show Steps p.tables e below (s₁.setTop (mkF m 0 #[.val (.ref a_TERMINATED), .val (.ref a_STARTED), .val (.ref a_PROVIDER)] [])) _
    refine XS.aloadN X0.here hx rfl (hb hby d2_0) rfl rfl ?_
    show Steps p.tables e below (s₁.setTop (mkF m 1 #[.val (.ref a_TERMINATED), .val (.ref a_STARTED), .val (.ref a_PROVIDER)] [(.ref a_STARTED)])) _
    refine st1 _ ?_
    show Steps p.tables e below (T1.setTop (mkF m 3 #[.val (.ref a_TERMINATED), .val (.ref a_STARTED), .val (.ref a_PROVIDER)] [(.ref ax154), (.ref a_STARTED)])) _
    refine st2 _ ?_
    refine XS.pop X2.here hx rfl (hb hby d2_6) rfl rfl ?_
    refine XS.aloadN X2.here hx rfl (hb hby d2_7) rfl rfl ?_
    show Steps p.tables e below (T2.setTop (mkF m 8 #[.val (.ref a_TERMINATED), .val (.ref a_STARTED), .val (.ref a_PROVIDER)] [(.ref a_PROVIDER)])) _
    refine st3 _ ?_
    show Steps p.tables e below (T3.setTop (mkF m 10 #[.val (.ref a_TERMINATED), .val (.ref a_STARTED), .val (.ref a_PROVIDER)] [(.ref ax155), (.ref a_PROVIDER)])) _
    refine st4 _ ?_
    refine XS.pop X4.here hx rfl (hb hby d2_13) rfl rfl ?_
    refine XS.aloadN X4.here hx rfl (hb hby d2_14) rfl rfl ?_
    show Steps p.tables e below (T4.setTop (mkF m 15 #[.val (.ref a_TERMINATED), .val (.ref a_STARTED), .val (.ref a_PROVIDER)] [(.ref a_STARTED)])) _
    refine st7.trans ?_
    show Steps p.tables e below (T7.setTop (mkF m 18 #[.val (.ref a_TERMINATED), .val (.ref a_STARTED), .val (.ref a_PROVIDER)] [(.int 1)])) _
    refine XS.tswIn X7.here hx rfl (pc0 := 18) (pc' := 66) (o := 48) rfl (hb hby d2_18) rfl (by decide) (by decide) (by decide) (by decide) ?_
    refine XS.aloadN X7.here hx rfl (hb hby d2_66) rfl rfl ?_
    show Steps p.tables e below (T7.setTop (mkF m 67 #[.val (.ref a_TERMINATED), .val (.ref a_STARTED), .val (.ref a_PROVIDER)] [(.ref a_TERMINATED)])) _
    refine st12 _ ?_
    show Steps p.tables e below (T12.setTop (mkF m 70 #[.val (.ref a_TERMINATED), .val (.ref a_STARTED), .val (.ref a_PROVIDER)] [(.ref a_REQUESTED), (.ref a_TERMINATED)])) _
    refine Jvm.RoadKit.acmp (g := (mkF m 70 #[.val (.ref a_TERMINATED), .val (.ref a_STARTED), .val (.ref a_PROVIDER)] [(.ref a_REQUESTED), (.ref a_TERMINATED)])) X12 hx rfl rfl rfl (pc0 := 70) (pc' := 80) (same := false) rfl (hb hby d2_70) rfl (decide_eq_false fun q => (Ne.symm f4) (Value.ref.inj q)) (by decide) (by decide) ?_
    refine XS.aloadN X12.here hx rfl (hb hby d2_80) rfl rfl ?_
    show Steps p.tables e below (T12.setTop (mkF m 81 #[.val (.ref a_TERMINATED), .val (.ref a_STARTED), .val (.ref a_PROVIDER)] [(.ref a_TERMINATED)])) _
    refine st15 _ ?_
    show Steps p.tables e below (T15.setTop (mkF m 84 #[.val (.ref a_TERMINATED), .val (.ref a_STARTED), .val (.ref a_PROVIDER)] [(.ref a_SUSPENDED), (.ref a_TERMINATED)])) _
    refine Jvm.RoadKit.acmp (g := (mkF m 84 #[.val (.ref a_TERMINATED), .val (.ref a_STARTED), .val (.ref a_PROVIDER)] [(.ref a_SUSPENDED), (.ref a_TERMINATED)])) X15 hx rfl rfl rfl (pc0 := 84) (pc' := 91) (same := false) rfl (hb hby d2_84) rfl (decide_eq_false fun q => f6 (Value.ref.inj q)) (by decide) (by decide) ?_
    refine XS.iconst X15.here hx rfl (hb hby d2_91) ?_
    refine XS.goto X15.here hx rfl (pc0 := 92) (pc' := 122) rfl (hb hby d2_92) (by decide) (by decide) ?_
    show Steps p.tables e below (T15.setTop (mkF m 122 #[.val (.ref a_TERMINATED), .val (.ref a_STARTED), .val (.ref a_PROVIDER)] [(.int 0)])) _
    exact retN X15 hx (t := .boolean) Bd.returns (by simp) (hb hby d2_122) hr
  · show Q2_157 Z  h0 n0 _ T15.heap _
    rw [e15]
    exact ⟨rfl, N7, KK3⟩
set_option maxRecDepth 65536 in
set_option maxHeartbeats 40000000 in
theorem rm0_158 (l : Launch) (Z : State) (a0 : Array Value) (hw : ∀ d ∈ tables_1, d.before a0 Z = true) (ws : List Jvm.Cond) (p0 : Int32) (p1 : Int32) (p2 : Int32) (a_REQUESTED : Addr) (a_STARTED : Addr) (a_SUSPENDED : Addr) (a_COMPLETED : Addr) (a_TERMINATED : Addr) (a_PROVIDER : Addr) (h0 : Heap) (n0 : Nat) (Z0 : n0 ≤ h0.size) (f1 : S_0 Z h0 (.ref a_REQUESTED)) (f2 : E_0 Z h0 a_REQUESTED) (f3 : S_1 Z h0 (.ref a_STARTED)) (f4 : E_0 Z h0 a_STARTED) (f5 : S_2 Z h0 (.ref a_SUSPENDED)) (f6 : E_0 Z h0 a_SUSPENDED) (f7 : S_3 Z h0 (.ref a_COMPLETED)) (f8 : E_0 Z h0 a_COMPLETED) (f9 : S_4 Z h0 (.ref a_TERMINATED)) (f10 : E_0 Z h0 a_TERMINATED) (f11 : ((p0 &&& (2147483647 : Int32)) % (5 : Int32)) = (4 : Int32)) (f12 : ((p1 &&& (2147483647 : Int32)) % (5 : Int32)) = (1 : Int32)) (f13 : ¬ ((p2 &&& (1 : Int32)) = (0 : Int32))) (f14 : S_6 Z h0 (.ref a_PROVIDER)) (f15 : a_COMPLETED ≠ a_TERMINATED) (f16 : F_0 Z h0 a_STARTED (.int 1)) (f17 : a_REQUESTED ≠ a_TERMINATED) (f18 : a_TERMINATED ≠ a_SUSPENDED) :
    MetFree l x (head1 (Jvm.Cond.code x code maxLocals ret :: ws) room_1) (fun a U => a = #[(.int p0), (.int p1), (.int p2)] ∧ Z.Warmed39 U.vm ∧ U.heap = h0) (fun _ _ _ _ _ => True) (fun _ U o U' => ∃ v L, o = .returned v ∧ QT n0 v U'.heap L ∧ ReturnedEndW U o U' L room_1.cells room_1.slots) := by
  refine MetFree.of_bodySF (plainFor_of_name pn_com_example_offer_offer_model_TransferStateIsFinalPinLaw) hisR ?_
  intro p e s m args below meth c s₁ Bd hml0 hP hK
  obtain ⟨rfl, hZ, hh⟩ := hP
  have hx := Bd.exec
  have hby := Bd.bytes
  have hml : c.maxLocals = 10 := hml0
  have hown : s.vm.findClass "com/example/offer/offer/model/TransferStateIsFinalPinLaw" = some m.cls := findClass_of_methodNamed Bd.named
  have hnm := (name_of_methodNamed Bd.named Bd.method).1
  have X0 : Stand p l e room_1 s m #[(.int p0), (.int p1), (.int p2)] below meth c s₁ [] 0 0 := Stand.of_body Bd
  have e0 : s₁.heap = h0 := by rw [← hh, Bd.state]; rfl
  have N0 := Fr.nil n0
  obtain ⟨T1, h1, L1, b152, kc153, X1, e1, N1, K1, le_b152, o1_0, o1_1, st1⟩ := sg0_25 p0 p1 p2 a_REQUESTED a_STARTED a_SUSPENDED a_COMPLETED a_TERMINATED X0 hx hZ hw hby hml hown e0 N0 Z0 f1 f2 f3 f4 f5 f6 f7 f8 f9 f10
  have sz_b152 : h0.size ≤ b152 := Nat.le_trans (Nat.le_refl _) le_b152
  have g_b152 : n0 ≤ b152 := Nat.le_trans Z0 sz_b152
  have KK1 : Keep h0 h1 [] := (Keep.refl h0 []).trans K1 (fun x hx => nomatch hx)
  have u2 : S_6 Z h1 (.ref a_PROVIDER) := own_sta_keep f14 K1 (fun _ q => nomatch q)
  obtain ⟨T3, X3, e3, st3⟩ := getS2 X1 hx hZ hown (host := "") (Or.inl (tw_25 hw)) Via.refl e1 u2 (g := (mkF m 57 #[.val (.int p0), .val (.int p1), .val (.int p2), .val (.ref b152), .val (.int 4), .val (.int 1), .unset, .unset, .unset, .unset] [])) rfl (hb hby at_57)
  have va4 := o1_0
  obtain ⟨cl4, Ar4, -, S4, -, H4, -⟩ := va4
  have hin4 : ¬ ((4 : Int32) < 0 ∨ cl4.slots.size ≤ ((4 : Int32)).toNatClampNeg) := inb_of S4 ⟨by decide, by decide⟩
  have hat4 : cl4.slots[((4 : Int32)).toNatClampNeg]? = some (.ref a_TERMINATED) := H4 _ (Nat.lt_of_not_le fun y => hin4 (Or.inr y))
  -- pc 76: com/example/offer/offer/model/TransferState.isFinal
  have u5 : S_3 Z h1 (.ref a_COMPLETED) := own_sta_keep f7 K1 (fun _ q => nomatch q)
  have u6 : S_4 Z h1 (.ref a_TERMINATED) := own_sta_keep f9 K1 (fun _ q => nomatch q)
  have u8 : E_0 Z h1 a_TERMINATED := Exa.keep f10 K1
  obtain ⟨cq7, kq7, q7a, q7b, q7c⟩ := isOf hZ e3 u8
  obtain ⟨_, _, ⟨T7, L7, k7, n7⟩, -, X7, ⟨Lc7, hQ7, l7, y7, z7⟩, st7⟩ := X3.virtualBack hx (y := M_0) (z := M_0) hown (mvT hZ (tw_18 hw)) (mvT hZ (tw_19 hw)) (notFace_of_selects (args := #[]) (mvT hZ (tw_21 hw))) (mvT hZ (tw_21 hw)) (mvT hZ (tw_20 hw)) (by decide) (backOf (W := 0) (rm1_132 l Z a0 hw [] a_TERMINATED a_COMPLETED h1 n0 (Nat.le_trans Z0 KK1.1) u5 f15 u6) hZ (tw_22 hw) (tw_3 hw) (by decide) (by decide)) q7a q7c (g := (mkF m 76 #[.val (.int p0), .val (.int p1), .val (.int p2), .val (.ref b152), .val (.int 4), .val (.int 1), .val (.ref a_PROVIDER), .val (.ref a_TERMINATED), .unset, .unset] [(.ref a_TERMINATED)])) rfl (by rw [hml]; rfl) (Steps.refl _) (argsL := []) (rest := []) (lenOf pd_0 rfl) rfl (by show 2 * 0 + _ ≤ _; exact Nat.le_of_eq rfl) (hb hby at_76) (fun _ _ => ⟨rfl, e3, (by decide : 1 + 0 ≤ _), (by decide : 5 + 0 ≤ _)⟩)
  dsimp only [Pt.U, Pt.locs, Pt.cells, Pt.slots] at X7 l7 y7 z7 st7 hQ7
  subst l7 y7 z7
  obtain ⟨rfl, Nq7, e7⟩ := hQ7
  have N7 := Fr.app N1 Nq7
  have va9 := o1_0
  obtain ⟨cl9, Ar9, -, S9, -, H9, -⟩ := va9
  have hin9 : ¬ ((1 : Int32) < 0 ∨ cl9.slots.size ≤ ((1 : Int32)).toNatClampNeg) := inb_of S9 ⟨by decide, by decide⟩
  have hat9 : cl9.slots[((1 : Int32)).toNatClampNeg]? = some (.ref a_STARTED) := H9 _ (Nat.lt_of_not_le fun y => hin9 (Or.inr y))
  -- pc 116: com/example/offer/offer/model/TransferState.canMoveTo
  have u10 : F_0 Z h1 a_STARTED (.int 1) := Fld.keep f16 K1 List.not_mem_nil
  have u11 : E_0 Z h1 a_STARTED := Exa.keep f4 K1
  have u12 : S_0 Z h1 (.ref a_REQUESTED) := own_sta_keep f1 K1 (fun _ q => nomatch q)
  have u13 : S_2 Z h1 (.ref a_SUSPENDED) := own_sta_keep f5 K1 (fun _ q => nomatch q)
  obtain ⟨cq14, kq14, q14a, q14b, q14c⟩ := isOf hZ e7 u8
  obtain ⟨_, _, ⟨T14, L14, k14, n14⟩, -, X14, hS14, hg14, ⟨Lc14, hQ14, l14, y14, z14⟩, st14⟩ := X7.virtualBackS hx (y := M_4) (z := M_4) hown (mvT hZ (tw_27 hw)) (mvT hZ (tw_28 hw)) (notFace_of_selects (args := #[]) (mvT hZ (tw_30 hw))) (mvT hZ (tw_30 hw)) (mvT hZ (tw_29 hw)) (by decide) (backOfS (W := 0) (rm2_156 l Z a0 hw [] a_TERMINATED a_STARTED a_PROVIDER a_REQUESTED a_SUSPENDED h1 n0 (Nat.le_trans Z0 KK1.1) u10 u11 u12 f17 u13 f18) hZ (tw_31 hw) (tw_3 hw) (by decide) (by decide)) q14a q14c (g := (mkF m 116 #[.val (.int p0), .val (.int p1), .val (.int p2), .val (.ref b152), .val (.int 4), .val (.int 1), .val (.ref a_PROVIDER), .val (.ref a_TERMINATED), .val (.int 1), .val (.int 1)] [(.ref a_PROVIDER), (.ref a_STARTED), (.ref a_TERMINATED)])) rfl (by rw [hml]; rfl) (Steps.refl _) (argsL := [(.ref a_STARTED), (.ref a_PROVIDER)]) (rest := []) (lenOf pd_3 rfl) rfl (by show 2 * 0 + _ ≤ _; exact Nat.le_of_eq rfl) (hb hby at_116) (fun _ _ => ⟨rfl, e7, (by decide : 1 + 4 ≤ _), (by decide : 5 + 32 ≤ _)⟩)
  dsimp only [Pt.U, Pt.locs, Pt.cells, Pt.slots] at X14 l14 y14 z14 st14 hQ14 hS14 hg14
  subst l14 y14 z14
  have hZ14 : Z.Warmed39 (s.setVm T14.vm).vm := State.Warmed39.trans hZ hS14.1
  have hown14 : (s.setVm T14.vm).vm.findClass "com/example/offer/offer/model/TransferStateIsFinalPinLaw" = some m.cls := by rw [show (s.setVm T14.vm).vm = T14.vm from rfl, hS14.1.alike.findClass]; exact hown
  obtain ⟨rfl, Nq14, K14⟩ := hQ14
  have N14 := Fr.app N7 Nq14
  have KK14 : Keep h0 T14.heap [] := KK1.trans K14 (fun x hx => nomatch hx)
  obtain ⟨fs, hr, hrun, hended, hRE⟩ := X14.leaveW hS14 (by exact (Nat.le_refl _)) (v := (some (.int 1))) (fun h => by rw [Bd.returns] at h; cases h)
  refine ⟨_, _, castTop (ef0_III m p0 p1 p2) ?_, hrun, hended, _, _, rfl, ?_, hRE.1, hRE.2.1, hRE.2.2.1, hRE.2.2.2.mono (by decide) (by decide)⟩
  · show Steps p.tables e below (s₁.setTop (mkF m 0 #[.val (.int p0), .val (.int p1), .val (.int p2), .unset, .unset, .unset, .unset, .unset, .unset, .unset] [])) _
    refine st1 _ ?_
    refine XS.iloadN X1.here hx rfl (hb hby at_35) rfl ?_
    show Steps p.tables e below (T1.setTop (mkF m 36 #[.val (.int p0), .val (.int p1), .val (.int p2), .val (.ref b152), .unset, .unset, .unset, .unset, .unset, .unset] [(.int p0)])) _
    refine X1.ldcInt hx hown (mvT hZ (tw_14 hw)) (g := (mkF m 36 #[.val (.int p0), .val (.int p1), .val (.int p2), .val (.ref b152), .unset, .unset, .unset, .unset, .unset, .unset] [(.int p0)])) rfl (hb hby at_36) _ ?_
    show Steps p.tables e below (T1.setTop (mkF m 38 #[.val (.int p0), .val (.int p1), .val (.int p2), .val (.ref b152), .unset, .unset, .unset, .unset, .unset, .unset] [(.int 2147483647), (.int p0)])) _
    refine XS.iand X1.here hx rfl (hb hby at_38) rfl ?_
    refine XS.iconst X1.here hx rfl (hb hby at_39) ?_
    show Steps p.tables e below (T1.setTop (mkF m 40 #[.val (.int p0), .val (.int p1), .val (.int p2), .val (.ref b152), .unset, .unset, .unset, .unset, .unset, .unset] [(.int 5), (.int (p0 &&& (2147483647 : Int32)))])) _
    refine iremM X1 hx rfl (hb hby at_40) rfl (by decide) ?_
    show Steps p.tables e below (T1.setTop (mkF m 41 #[.val (.int p0), .val (.int p1), .val (.int p2), .val (.ref b152), .unset, .unset, .unset, .unset, .unset, .unset] [(.int ((p0 &&& (2147483647 : Int32)) % (5 : Int32)))])) _
    rw [f11]
    refine XS.istore X1.here hx rfl (hb hby at_41) rfl (l' := #[.val (.int p0), .val (.int p1), .val (.int p2), .val (.ref b152), .val (.int 4), .unset, .unset, .unset, .unset, .unset]) rfl ?_
    refine XS.iloadN X1.here hx rfl (hb hby at_43) rfl ?_
    show Steps p.tables e below (T1.setTop (mkF m 44 #[.val (.int p0), .val (.int p1), .val (.int p2), .val (.ref b152), .val (.int 4), .unset, .unset, .unset, .unset, .unset] [(.int p1)])) _
    refine X1.ldcInt hx hown (mvT hZ (tw_14 hw)) (g := (mkF m 44 #[.val (.int p0), .val (.int p1), .val (.int p2), .val (.ref b152), .val (.int 4), .unset, .unset, .unset, .unset, .unset] [(.int p1)])) rfl (hb hby at_44) _ ?_
    show Steps p.tables e below (T1.setTop (mkF m 46 #[.val (.int p0), .val (.int p1), .val (.int p2), .val (.ref b152), .val (.int 4), .unset, .unset, .unset, .unset, .unset] [(.int 2147483647), (.int p1)])) _
    refine XS.iand X1.here hx rfl (hb hby at_46) rfl ?_
    refine XS.iconst X1.here hx rfl (hb hby at_47) ?_
    show Steps p.tables e below (T1.setTop (mkF m 48 #[.val (.int p0), .val (.int p1), .val (.int p2), .val (.ref b152), .val (.int 4), .unset, .unset, .unset, .unset, .unset] [(.int 5), (.int (p1 &&& (2147483647 : Int32)))])) _
    refine iremM X1 hx rfl (hb hby at_48) rfl (by decide) ?_
    show Steps p.tables e below (T1.setTop (mkF m 49 #[.val (.int p0), .val (.int p1), .val (.int p2), .val (.ref b152), .val (.int 4), .unset, .unset, .unset, .unset, .unset] [(.int ((p1 &&& (2147483647 : Int32)) % (5 : Int32)))])) _
    rw [f12]
    refine XS.istore X1.here hx rfl (hb hby at_49) rfl (l' := #[.val (.int p0), .val (.int p1), .val (.int p2), .val (.ref b152), .val (.int 4), .val (.int 1), .unset, .unset, .unset, .unset]) rfl ?_
    refine XS.iloadN X1.here hx rfl (hb hby at_51) rfl ?_
    refine XS.iconst X1.here hx rfl (hb hby at_52) ?_
    show Steps p.tables e below (T1.setTop (mkF m 53 #[.val (.int p0), .val (.int p1), .val (.int p2), .val (.ref b152), .val (.int 4), .val (.int 1), .unset, .unset, .unset, .unset] [(.int 1), (.int p2)])) _
    refine XS.iand X1.here hx rfl (hb hby at_53) rfl ?_
    refine XS.ifNo X1.here hx rfl (hb hby at_54) rfl ((if0 _ _).trans (feq (f13 : ¬ ((p2 &&& (1 : Int32)) = (0 : Int32)))).1) ?_
    show Steps p.tables e below (T1.setTop (mkF m 57 #[.val (.int p0), .val (.int p1), .val (.int p2), .val (.ref b152), .val (.int 4), .val (.int 1), .unset, .unset, .unset, .unset] [])) _
    refine st3 _ ?_
    refine XS.goto X3.here hx rfl (pc0 := 60) (pc' := 66) rfl (hb hby at_60) (by decide) (by decide) ?_
    refine XS.astore X3.here hx rfl (hb hby at_66) rfl rfl (l' := #[.val (.int p0), .val (.int p1), .val (.int p2), .val (.ref b152), .val (.int 4), .val (.int 1), .val (.ref a_PROVIDER), .unset, .unset, .unset]) rfl ?_
    refine XS.aloadN X3.here hx rfl (hb hby at_68) rfl rfl ?_
    refine XS.iload X3.here hx rfl (hb hby at_69) rfl ?_
    show Steps p.tables e below (T3.setTop (mkF m 71 #[.val (.int p0), .val (.int p1), .val (.int p2), .val (.ref b152), .val (.int 4), .val (.int 1), .val (.ref a_PROVIDER), .unset, .unset, .unset] [(.int 4), (.ref b152)])) _
    refine X3.aaload hx (j := (4 : Int32)) (v := (.ref a_TERMINATED)) (by rw [e3]; exact Ar4.1) (State.isArrayOf_alike hZ.alike Ar4.2.1) rfl Ar4.2.2 hin4 hat4 (g := (mkF m 71 #[.val (.int p0), .val (.int p1), .val (.int p2), .val (.ref b152), .val (.int 4), .val (.int 1), .val (.ref a_PROVIDER), .unset, .unset, .unset] [(.int 4), (.ref b152)])) rfl rfl (hb hby at_71) _ ?_
    refine XS.astore X3.here hx rfl (hb hby at_72) rfl rfl (l' := #[.val (.int p0), .val (.int p1), .val (.int p2), .val (.ref b152), .val (.int 4), .val (.int 1), .val (.ref a_PROVIDER), .val (.ref a_TERMINATED), .unset, .unset]) rfl ?_
    refine XS.aload X3.here hx rfl (hb hby at_74) rfl rfl ?_
    show Steps p.tables e below (T3.setTop (mkF m 76 #[.val (.int p0), .val (.int p1), .val (.int p2), .val (.ref b152), .val (.int 4), .val (.int 1), .val (.ref a_PROVIDER), .val (.ref a_TERMINATED), .unset, .unset] [(.ref a_TERMINATED)])) _
    refine st7.trans ?_
    refine XS.istore X7.here hx rfl (hb hby at_79) rfl (l' := #[.val (.int p0), .val (.int p1), .val (.int p2), .val (.ref b152), .val (.int 4), .val (.int 1), .val (.ref a_PROVIDER), .val (.ref a_TERMINATED), .val (.int 1), .unset]) rfl ?_
    refine XS.iload X7.here hx rfl (hb hby at_81) rfl ?_
    refine XS.iconst X7.here hx rfl (hb hby at_83) ?_
    refine XS.icmpNo X7.here hx rfl (hb hby at_84) rfl (by decide) ?_
    show Steps p.tables e below (T7.setTop (mkF m 87 #[.val (.int p0), .val (.int p1), .val (.int p2), .val (.ref b152), .val (.int 4), .val (.int 1), .val (.ref a_PROVIDER), .val (.ref a_TERMINATED), .val (.int 1), .unset] [])) _
    refine XS.iconst X7.here hx rfl (hb hby at_87) ?_
    refine XS.goto X7.here hx rfl (pc0 := 88) (pc' := 92) rfl (hb hby at_88) (by decide) (by decide) ?_
    refine XS.istore X7.here hx rfl (hb hby at_92) rfl (l' := #[.val (.int p0), .val (.int p1), .val (.int p2), .val (.ref b152), .val (.int 4), .val (.int 1), .val (.ref a_PROVIDER), .val (.ref a_TERMINATED), .val (.int 1), .val (.int 1)]) rfl ?_
    refine XS.iload X7.here hx rfl (hb hby at_94) rfl ?_
    refine XS.iload X7.here hx rfl (hb hby at_96) rfl ?_
    show Steps p.tables e below (T7.setTop (mkF m 98 #[.val (.int p0), .val (.int p1), .val (.int p2), .val (.ref b152), .val (.int 4), .val (.int 1), .val (.ref a_PROVIDER), .val (.ref a_TERMINATED), .val (.int 1), .val (.int 1)] [(.int 1), (.int 1)])) _
    refine XS.icmpYes X7.here hx rfl (pc0 := 98) (pc' := 103) rfl (hb hby at_98) rfl (by decide) (by decide) (by decide) ?_
    refine XS.iload X7.here hx rfl (hb hby at_103) rfl ?_
    refine XS.ifNo X7.here hx rfl (hb hby at_105) rfl (by decide) ?_
    refine XS.aload X7.here hx rfl (hb hby at_108) rfl rfl ?_
    refine XS.aloadN X7.here hx rfl (hb hby at_110) rfl rfl ?_
    show Steps p.tables e below (T7.setTop (mkF m 111 #[.val (.int p0), .val (.int p1), .val (.int p2), .val (.ref b152), .val (.int 4), .val (.int 1), .val (.ref a_PROVIDER), .val (.ref a_TERMINATED), .val (.int 1), .val (.int 1)] [(.ref b152), (.ref a_TERMINATED)])) _
    refine XS.iload X7.here hx rfl (hb hby at_111) rfl ?_
    show Steps p.tables e below (T7.setTop (mkF m 113 #[.val (.int p0), .val (.int p1), .val (.int p2), .val (.ref b152), .val (.int 4), .val (.int 1), .val (.ref a_PROVIDER), .val (.ref a_TERMINATED), .val (.int 1), .val (.int 1)] [(.int 1), (.ref b152), (.ref a_TERMINATED)])) _
    refine X7.aaload hx (j := (1 : Int32)) (v := (.ref a_STARTED)) (by rw [e7]; exact Ar9.1) (State.isArrayOf_alike hZ.alike Ar9.2.1) rfl Ar9.2.2 hin9 hat9 (g := (mkF m 113 #[.val (.int p0), .val (.int p1), .val (.int p2), .val (.ref b152), .val (.int 4), .val (.int 1), .val (.ref a_PROVIDER), .val (.ref a_TERMINATED), .val (.int 1), .val (.int 1)] [(.int 1), (.ref b152), (.ref a_TERMINATED)])) rfl rfl (hb hby at_113) _ ?_
    refine XS.aload X7.here hx rfl (hb hby at_114) rfl rfl ?_
    show Steps p.tables e below (T7.setTop (mkF m 116 #[.val (.int p0), .val (.int p1), .val (.int p2), .val (.ref b152), .val (.int 4), .val (.int 1), .val (.ref a_PROVIDER), .val (.ref a_TERMINATED), .val (.int 1), .val (.int 1)] [(.ref a_PROVIDER), (.ref a_STARTED), (.ref a_TERMINATED)])) _
    refine st14.trans ?_
    refine XS.ifYes X14.here hx rfl (pc0 := 119) (pc' := 124) rfl (hb hby at_119) rfl (by decide) (by decide) (by decide) ?_
    refine XS.iconst X14.here hx rfl (hb hby at_124) ?_
    show Steps p.tables e below (T14.setTop (mkF m 125 #[.val (.int p0), .val (.int p1), .val (.int p2), .val (.ref b152), .val (.int 4), .val (.int 1), .val (.ref a_PROVIDER), .val (.ref a_TERMINATED), .val (.int 1), .val (.int 1)] [(.int 1)])) _
    exact retN X14 hx (t := .boolean) Bd.returns (by simp) (hb hby at_125) hr
  · show QT n0 _ T14.heap _
    exact ⟨rfl, N14⟩
def Q2_164 (Z : State)  (h0 : Heap) (n0 : Nat) (v : Option Value) (h : Heap) (L : List Loc) : Prop := v = (some (.int 0)) ∧ Fr n0 L ∧ Keep h0 h []
set_option maxRecDepth 65536 in
set_option maxHeartbeats 40000000 in
theorem rm2_163 (l : Launch) (Z : State) (a0 : Array Value) (hw : ∀ d ∈ tables_1, d.before a0 Z = true) (ws : List Jvm.Cond) (a_TERMINATED : Addr) (a_SUSPENDED : Addr) (a_CONSUMER : Addr) (a_STARTED : Addr) (h0 : Heap) (n0 : Nat) (Z0 : n0 ≤ h0.size) (f1 : F_0 Z h0 a_SUSPENDED (.int 2)) (f2 : E_0 Z h0 a_SUSPENDED) (f3 : S_1 Z h0 (.ref a_STARTED)) (f4 : a_TERMINATED ≠ a_STARTED) :
    MetFree l M_4 (head1 (Jvm.Cond.code M_4 prog_6_method_5_code 3 (some .boolean) :: ws) R_1_4_32_13) (fun a U => a = #[(.ref a_TERMINATED), (.ref a_SUSPENDED), (.ref a_CONSUMER)] ∧ Z.Warmed39 U.vm ∧ U.heap = h0) (fun _ _ _ _ _ => True) (fun _ U o U' => ∃ v L, o = .returned v ∧ Q2_164 Z  h0 n0 v U'.heap L ∧ ReturnedEndW U o U' L R_1_4_32_13.cells R_1_4_32_13.slots) := by
  refine MetFree.of_bodySF (plainFor_of_name pn_com_example_offer_offer_model_TransferState) hisR ?_
  intro p e s m args below meth c s₁ Bd hml0 hP hK
  obtain ⟨rfl, hZ, hh⟩ := hP
  have hx := Bd.exec
  have hby := Bd.bytes
  have hml : c.maxLocals = 3 := hml0
  have hown : s.vm.findClass "com/example/offer/offer/model/TransferState" = some m.cls := findClass_of_methodNamed Bd.named
  have hnm := (name_of_methodNamed Bd.named Bd.method).1
  have X0 : Stand p l e R_1_4_32_13 s m #[(.ref a_TERMINATED), (.ref a_SUSPENDED), (.ref a_CONSUMER)] below meth c s₁ [] 0 0 := Stand.of_body Bd
  have e0 : s₁.heap = h0 := by rw [← hh, Bd.state]; rfl
  have N0 := Fr.nil n0
  obtain ⟨ax161, T1, h1, kz1, X1, e1, E1, hS1, hk1, hZ1, hown1, st1⟩ := ldcS (s := s) (vm0 := s.vm) X0 hx hZ hown (tw_32 hw) (own_strs hw) e0 ((State.WarmedH.refl s).since 0) (Nat.zero_le _) (g := (mkF m 1 #[.val (.ref a_TERMINATED), .val (.ref a_SUSPENDED), .val (.ref a_CONSUMER)] [(.ref a_SUSPENDED)])) rfl (hb hby d2_1) (n := 16) (by decide) (by decide) (by decide) (by decide)
  have KK1 : Keep h0 h1 [] := (Keep.refl h0 []).ext E1
  -- pc 3: java/util/Objects.requireNonNull
  obtain ⟨_, _, ⟨T2, L2, k2, n2⟩, -, X2, ⟨Lc2, hQ2, l2, y2, z2⟩, st2⟩ := Jvm.LawKit.callS X1 hx (y := M_1) hown1 (mvT hZ1 (tw_40 hw)) (mvT hZ1 (tw_41 hw)) (mvT hZ1 (tw_42 hw)) (mvT hZ1 (tw_43 hw)) (by decide) (backOf (W := 0) (rm3_85 l Z a0 hw [] a_SUSPENDED ax161 h1 n0 (Nat.le_trans Z0 KK1.1) ) hZ1 (tw_43 hw) (tw_42 hw) (by decide) (by decide)) (g := (mkF m 3 #[.val (.ref a_TERMINATED), .val (.ref a_SUSPENDED), .val (.ref a_CONSUMER)] [(.ref ax161), (.ref a_SUSPENDED)])) rfl (by rw [hml]; rfl) (argsL := [(.ref a_SUSPENDED), (.ref ax161)]) (rest := []) (lenOf pd_1 rfl) rfl (by show 2 * 0 + _ ≤ _; exact Nat.le_of_eq rfl) (hb hby d2_3) (fun _ _ => ⟨rfl, e1, (by decide : 2 + 0 ≤ _), (by decide : 20 + 0 ≤ _)⟩)
  dsimp only [Pt.U, Pt.locs, Pt.cells, Pt.slots] at X2 l2 y2 z2 st2 hQ2
  subst l2 y2 z2
  obtain ⟨rfl, Nq2, e2⟩ := hQ2
  have N2 := Fr.app N0 Nq2
  obtain ⟨ax162, T3, h3, kz3, X3, e3, E3, hS3, hk3, hZ3, hown3, st3⟩ := ldcS (s := s) (vm0 := T1.vm) X2 hx hZ1 hown1 (tw_44 hw) (own_strs hw) e2 hS1 hk1 (g := (mkF m 8 #[.val (.ref a_TERMINATED), .val (.ref a_SUSPENDED), .val (.ref a_CONSUMER)] [(.ref a_CONSUMER)])) rfl (hb hby d2_8) (n := 8) (by decide) (by decide) (by decide) (by decide)
  have KK3 : Keep h0 h3 [] := KK1.ext E3
  -- pc 10: java/util/Objects.requireNonNull
  obtain ⟨_, _, ⟨T4, L4, k4, n4⟩, -, X4, ⟨Lc4, hQ4, l4, y4, z4⟩, st4⟩ := Jvm.LawKit.callS X3 hx (y := M_1) hown3 (mvT hZ3 (tw_40 hw)) (mvT hZ3 (tw_41 hw)) (mvT hZ3 (tw_42 hw)) (mvT hZ3 (tw_43 hw)) (by decide) (backOf (W := 0) (rm3_53 l Z a0 hw [] a_CONSUMER ax162 h3 n0 (Nat.le_trans Z0 KK3.1) ) hZ3 (tw_43 hw) (tw_42 hw) (by decide) (by decide)) (g := (mkF m 10 #[.val (.ref a_TERMINATED), .val (.ref a_SUSPENDED), .val (.ref a_CONSUMER)] [(.ref ax162), (.ref a_CONSUMER)])) rfl (by rw [hml]; rfl) (argsL := [(.ref a_CONSUMER), (.ref ax162)]) (rest := []) (lenOf pd_1 rfl) rfl (by show 2 * 0 + _ ≤ _; exact Nat.le_of_eq rfl) (hb hby d2_10) (fun _ _ => ⟨rfl, e3, (by decide : 4 + 0 ≤ _), (by decide : 32 + 0 ≤ _)⟩)
  dsimp only [Pt.U, Pt.locs, Pt.cells, Pt.slots] at X4 l4 y4 z4 st4 hQ4
  subst l4 y4 z4
  obtain ⟨rfl, Nq4, e4⟩ := hQ4
  have N4 := Fr.app N2 Nq4
  -- pc 15: java/lang/Enum.ordinal
  have u5 : F_0 Z h1 a_SUSPENDED (.int 2) := Fld.ext E1 f1
  have u6 : F_0 Z h3 a_SUSPENDED (.int 2) := Fld.ext E3 u5
  have u8 : E_0 Z h1 a_SUSPENDED := Exa.ext E1 f2
  have u9 : E_0 Z h3 a_SUSPENDED := Exa.ext E3 u8
  obtain ⟨cq7, kq7, q7a, q7b, q7c⟩ := isOf hZ3 e4 u9
  obtain ⟨_, _, ⟨T7, L7, k7, n7⟩, -, X7, ⟨Lc7, hQ7, l7, y7, z7⟩, st7⟩ := X4.virtualBackUp hx (x := M_3) (y := M_2) (owner := "java/lang/Enum") hown3 (mvT hZ3 (tw_45 hw)) (mvT hZ3 (tw_46 hw)) (mvT hZ3 (tw_47 hw)) (by decide) (mvT hZ3 (tw_49 hw)) (mvT hZ3 (tw_48 hw)) (backOf (W := 0) (rm4_87 l Z a0 hw [] a_SUSPENDED h3 n0 (Nat.le_trans Z0 KK3.1) u6) hZ3 (tw_51 hw) (tw_50 hw) (by decide) (by decide)) q7a q7c (g := (mkF m 15 #[.val (.ref a_TERMINATED), .val (.ref a_SUSPENDED), .val (.ref a_CONSUMER)] [(.ref a_SUSPENDED)])) rfl (by rw [hml]; rfl) (Steps.refl _) (argsL := []) (rest := []) (lenOf pd_2 rfl) rfl (by show 2 * 0 + _ ≤ _; exact Nat.le_of_eq rfl) (hb hby d2_15) (fun _ _ => ⟨rfl, e4, (by decide : 4 + 0 ≤ _), (by decide : 32 + 0 ≤ _)⟩)
  dsimp only [Pt.U, Pt.locs, Pt.cells, Pt.slots] at X7 l7 y7 z7 st7 hQ7
  subst l7 y7 z7
  obtain ⟨rfl, Nq7, e7⟩ := hQ7
  have N7 := Fr.app N4 Nq7
  have u10 : S_1 Z h1 (.ref a_STARTED) := Sta.ext E1 f3
  have u11 : S_1 Z h3 (.ref a_STARTED) := Sta.ext E3 u10
  obtain ⟨T12, X12, e12, st12⟩ := getS2 X7 hx hZ3 hown3 (host := "") (Or.inl (tw_57 hw)) Via.refl e7 u11 (g := (mkF m 96 #[.val (.ref a_TERMINATED), .val (.ref a_SUSPENDED), .val (.ref a_CONSUMER)] [(.ref a_TERMINATED)])) rfl (hb hby d2_96)
  obtain ⟨fs, hr, hrun, hended, hRE⟩ := X12.leaveW hS3 (by rw [e12]; exact hk3) (v := (some (.int 0))) (fun h => by rw [Bd.returns] at h; cases h)
  refine ⟨_, _, castTop (ef2_RRR m a_TERMINATED a_SUSPENDED a_CONSUMER) ?_, hrun, hended, _, _, rfl, ?_, hRE.1, hRE.2.1, hRE.2.2.1, hRE.2.2.2.mono (by decide) (by decide)⟩
  · show Steps p.tables e below (s₁.setTop (mkF m 0 #[.val (.ref a_TERMINATED), .val (.ref a_SUSPENDED), .val (.ref a_CONSUMER)] [])) _
    refine XS.aloadN X0.here hx rfl (hb hby d2_0) rfl rfl ?_
    show Steps p.tables e below (s₁.setTop (mkF m 1 #[.val (.ref a_TERMINATED), .val (.ref a_SUSPENDED), .val (.ref a_CONSUMER)] [(.ref a_SUSPENDED)])) _
    refine st1 _ ?_
    show Steps p.tables e below (T1.setTop (mkF m 3 #[.val (.ref a_TERMINATED), .val (.ref a_SUSPENDED), .val (.ref a_CONSUMER)] [(.ref ax161), (.ref a_SUSPENDED)])) _
    refine st2 _ ?_
    refine XS.pop X2.here hx rfl (hb hby d2_6) rfl rfl ?_
    refine XS.aloadN X2.here hx rfl (hb hby d2_7) rfl rfl ?_
    show Steps p.tables e below (T2.setTop (mkF m 8 #[.val (.ref a_TERMINATED), .val (.ref a_SUSPENDED), .val (.ref a_CONSUMER)] [(.ref a_CONSUMER)])) _
    refine st3 _ ?_
    show Steps p.tables e below (T3.setTop (mkF m 10 #[.val (.ref a_TERMINATED), .val (.ref a_SUSPENDED), .val (.ref a_CONSUMER)] [(.ref ax162), (.ref a_CONSUMER)])) _
    refine st4 _ ?_
    refine XS.pop X4.here hx rfl (hb hby d2_13) rfl rfl ?_
    refine XS.aloadN X4.here hx rfl (hb hby d2_14) rfl rfl ?_
    show Steps p.tables e below (T4.setTop (mkF m 15 #[.val (.ref a_TERMINATED), .val (.ref a_SUSPENDED), .val (.ref a_CONSUMER)] [(.ref a_SUSPENDED)])) _
    refine st7.trans ?_
    show Steps p.tables e below (T7.setTop (mkF m 18 #[.val (.ref a_TERMINATED), .val (.ref a_SUSPENDED), .val (.ref a_CONSUMER)] [(.int 2)])) _
    refine XS.tswIn X7.here hx rfl (pc0 := 18) (pc' := 95) (o := 77) rfl (hb hby d2_18) rfl (by decide) (by decide) (by decide) (by decide) ?_
    refine XS.aloadN X7.here hx rfl (hb hby d2_95) rfl rfl ?_
    show Steps p.tables e below (T7.setTop (mkF m 96 #[.val (.ref a_TERMINATED), .val (.ref a_SUSPENDED), .val (.ref a_CONSUMER)] [(.ref a_TERMINATED)])) _
    refine st12 _ ?_
    show Steps p.tables e below (T12.setTop (mkF m 99 #[.val (.ref a_TERMINATED), .val (.ref a_SUSPENDED), .val (.ref a_CONSUMER)] [(.ref a_STARTED), (.ref a_TERMINATED)])) _
    refine Jvm.RoadKit.acmp (g := (mkF m 99 #[.val (.ref a_TERMINATED), .val (.ref a_SUSPENDED), .val (.ref a_CONSUMER)] [(.ref a_STARTED), (.ref a_TERMINATED)])) X12 hx rfl rfl rfl (pc0 := 99) (pc' := 106) (same := false) rfl (hb hby d2_99) rfl (decide_eq_false fun q => f4 (Value.ref.inj q)) (by decide) (by decide) ?_
    refine XS.iconst X12.here hx rfl (hb hby d2_106) ?_
    refine XS.goto X12.here hx rfl (pc0 := 107) (pc' := 122) rfl (hb hby d2_107) (by decide) (by decide) ?_
    show Steps p.tables e below (T12.setTop (mkF m 122 #[.val (.ref a_TERMINATED), .val (.ref a_SUSPENDED), .val (.ref a_CONSUMER)] [(.int 0)])) _
    exact retN X12 hx (t := .boolean) Bd.returns (by simp) (hb hby d2_122) hr
  · show Q2_164 Z  h0 n0 _ T12.heap _
    rw [e12]
    exact ⟨rfl, N7, KK3⟩
set_option maxRecDepth 65536 in
set_option maxHeartbeats 40000000 in
theorem rm0_165 (l : Launch) (Z : State) (a0 : Array Value) (hw : ∀ d ∈ tables_1, d.before a0 Z = true) (ws : List Jvm.Cond) (p0 : Int32) (p1 : Int32) (p2 : Int32) (a_REQUESTED : Addr) (a_STARTED : Addr) (a_SUSPENDED : Addr) (a_COMPLETED : Addr) (a_TERMINATED : Addr) (a_CONSUMER : Addr) (h0 : Heap) (n0 : Nat) (Z0 : n0 ≤ h0.size) (f1 : S_0 Z h0 (.ref a_REQUESTED)) (f2 : E_0 Z h0 a_REQUESTED) (f3 : S_1 Z h0 (.ref a_STARTED)) (f4 : E_0 Z h0 a_STARTED) (f5 : S_2 Z h0 (.ref a_SUSPENDED)) (f6 : E_0 Z h0 a_SUSPENDED) (f7 : S_3 Z h0 (.ref a_COMPLETED)) (f8 : E_0 Z h0 a_COMPLETED) (f9 : S_4 Z h0 (.ref a_TERMINATED)) (f10 : E_0 Z h0 a_TERMINATED) (f11 : ((p0 &&& (2147483647 : Int32)) % (5 : Int32)) = (4 : Int32)) (f12 : ((p1 &&& (2147483647 : Int32)) % (5 : Int32)) = (2 : Int32)) (f13 : (p2 &&& (1 : Int32)) = (0 : Int32)) (f14 : S_5 Z h0 (.ref a_CONSUMER)) (f15 : a_COMPLETED ≠ a_TERMINATED) (f16 : F_0 Z h0 a_SUSPENDED (.int 2)) (f17 : a_TERMINATED ≠ a_STARTED) :
    MetFree l x (head1 (Jvm.Cond.code x code maxLocals ret :: ws) room_1) (fun a U => a = #[(.int p0), (.int p1), (.int p2)] ∧ Z.Warmed39 U.vm ∧ U.heap = h0) (fun _ _ _ _ _ => True) (fun _ U o U' => ∃ v L, o = .returned v ∧ QT n0 v U'.heap L ∧ ReturnedEndW U o U' L room_1.cells room_1.slots) := by
  refine MetFree.of_bodySF (plainFor_of_name pn_com_example_offer_offer_model_TransferStateIsFinalPinLaw) hisR ?_
  intro p e s m args below meth c s₁ Bd hml0 hP hK
  obtain ⟨rfl, hZ, hh⟩ := hP
  have hx := Bd.exec
  have hby := Bd.bytes
  have hml : c.maxLocals = 10 := hml0
  have hown : s.vm.findClass "com/example/offer/offer/model/TransferStateIsFinalPinLaw" = some m.cls := findClass_of_methodNamed Bd.named
  have hnm := (name_of_methodNamed Bd.named Bd.method).1
  have X0 : Stand p l e room_1 s m #[(.int p0), (.int p1), (.int p2)] below meth c s₁ [] 0 0 := Stand.of_body Bd
  have e0 : s₁.heap = h0 := by rw [← hh, Bd.state]; rfl
  have N0 := Fr.nil n0
  obtain ⟨T1, h1, L1, b159, kc160, X1, e1, N1, K1, le_b159, o1_0, o1_1, st1⟩ := sg0_25 p0 p1 p2 a_REQUESTED a_STARTED a_SUSPENDED a_COMPLETED a_TERMINATED X0 hx hZ hw hby hml hown e0 N0 Z0 f1 f2 f3 f4 f5 f6 f7 f8 f9 f10
  have sz_b159 : h0.size ≤ b159 := Nat.le_trans (Nat.le_refl _) le_b159
  have g_b159 : n0 ≤ b159 := Nat.le_trans Z0 sz_b159
  have KK1 : Keep h0 h1 [] := (Keep.refl h0 []).trans K1 (fun x hx => nomatch hx)
  have u2 : S_5 Z h1 (.ref a_CONSUMER) := own_sta_keep f14 K1 (fun _ q => nomatch q)
  obtain ⟨T3, X3, e3, st3⟩ := getS2 X1 hx hZ hown (host := "") (Or.inl (tw_15 hw)) Via.refl e1 u2 (g := (mkF m 63 #[.val (.int p0), .val (.int p1), .val (.int p2), .val (.ref b159), .val (.int 4), .val (.int 2), .unset, .unset, .unset, .unset] [])) rfl (hb hby at_63)
  have va4 := o1_0
  obtain ⟨cl4, Ar4, -, S4, -, H4, -⟩ := va4
  have hin4 : ¬ ((4 : Int32) < 0 ∨ cl4.slots.size ≤ ((4 : Int32)).toNatClampNeg) := inb_of S4 ⟨by decide, by decide⟩
  have hat4 : cl4.slots[((4 : Int32)).toNatClampNeg]? = some (.ref a_TERMINATED) := H4 _ (Nat.lt_of_not_le fun y => hin4 (Or.inr y))
  -- pc 76: com/example/offer/offer/model/TransferState.isFinal
  have u5 : S_3 Z h1 (.ref a_COMPLETED) := own_sta_keep f7 K1 (fun _ q => nomatch q)
  have u6 : S_4 Z h1 (.ref a_TERMINATED) := own_sta_keep f9 K1 (fun _ q => nomatch q)
  have u8 : E_0 Z h1 a_TERMINATED := Exa.keep f10 K1
  obtain ⟨cq7, kq7, q7a, q7b, q7c⟩ := isOf hZ e3 u8
  obtain ⟨_, _, ⟨T7, L7, k7, n7⟩, -, X7, ⟨Lc7, hQ7, l7, y7, z7⟩, st7⟩ := X3.virtualBack hx (y := M_0) (z := M_0) hown (mvT hZ (tw_18 hw)) (mvT hZ (tw_19 hw)) (notFace_of_selects (args := #[]) (mvT hZ (tw_21 hw))) (mvT hZ (tw_21 hw)) (mvT hZ (tw_20 hw)) (by decide) (backOf (W := 0) (rm1_132 l Z a0 hw [] a_TERMINATED a_COMPLETED h1 n0 (Nat.le_trans Z0 KK1.1) u5 f15 u6) hZ (tw_22 hw) (tw_3 hw) (by decide) (by decide)) q7a q7c (g := (mkF m 76 #[.val (.int p0), .val (.int p1), .val (.int p2), .val (.ref b159), .val (.int 4), .val (.int 2), .val (.ref a_CONSUMER), .val (.ref a_TERMINATED), .unset, .unset] [(.ref a_TERMINATED)])) rfl (by rw [hml]; rfl) (Steps.refl _) (argsL := []) (rest := []) (lenOf pd_0 rfl) rfl (by show 2 * 0 + _ ≤ _; exact Nat.le_of_eq rfl) (hb hby at_76) (fun _ _ => ⟨rfl, e3, (by decide : 1 + 0 ≤ _), (by decide : 5 + 0 ≤ _)⟩)
  dsimp only [Pt.U, Pt.locs, Pt.cells, Pt.slots] at X7 l7 y7 z7 st7 hQ7
  subst l7 y7 z7
  obtain ⟨rfl, Nq7, e7⟩ := hQ7
  have N7 := Fr.app N1 Nq7
  have va9 := o1_0
  obtain ⟨cl9, Ar9, -, S9, -, H9, -⟩ := va9
  have hin9 : ¬ ((2 : Int32) < 0 ∨ cl9.slots.size ≤ ((2 : Int32)).toNatClampNeg) := inb_of S9 ⟨by decide, by decide⟩
  have hat9 : cl9.slots[((2 : Int32)).toNatClampNeg]? = some (.ref a_SUSPENDED) := H9 _ (Nat.lt_of_not_le fun y => hin9 (Or.inr y))
  -- pc 116: com/example/offer/offer/model/TransferState.canMoveTo
  have u10 : F_0 Z h1 a_SUSPENDED (.int 2) := Fld.keep f16 K1 List.not_mem_nil
  have u11 : E_0 Z h1 a_SUSPENDED := Exa.keep f6 K1
  have u12 : S_1 Z h1 (.ref a_STARTED) := own_sta_keep f3 K1 (fun _ q => nomatch q)
  obtain ⟨cq13, kq13, q13a, q13b, q13c⟩ := isOf hZ e7 u8
  obtain ⟨_, _, ⟨T13, L13, k13, n13⟩, -, X13, hS13, hg13, ⟨Lc13, hQ13, l13, y13, z13⟩, st13⟩ := X7.virtualBackS hx (y := M_4) (z := M_4) hown (mvT hZ (tw_27 hw)) (mvT hZ (tw_28 hw)) (notFace_of_selects (args := #[]) (mvT hZ (tw_30 hw))) (mvT hZ (tw_30 hw)) (mvT hZ (tw_29 hw)) (by decide) (backOfS (W := 0) (rm2_163 l Z a0 hw [] a_TERMINATED a_SUSPENDED a_CONSUMER a_STARTED h1 n0 (Nat.le_trans Z0 KK1.1) u10 u11 u12 f17) hZ (tw_31 hw) (tw_3 hw) (by decide) (by decide)) q13a q13c (g := (mkF m 116 #[.val (.int p0), .val (.int p1), .val (.int p2), .val (.ref b159), .val (.int 4), .val (.int 2), .val (.ref a_CONSUMER), .val (.ref a_TERMINATED), .val (.int 1), .val (.int 1)] [(.ref a_CONSUMER), (.ref a_SUSPENDED), (.ref a_TERMINATED)])) rfl (by rw [hml]; rfl) (Steps.refl _) (argsL := [(.ref a_SUSPENDED), (.ref a_CONSUMER)]) (rest := []) (lenOf pd_3 rfl) rfl (by show 2 * 0 + _ ≤ _; exact Nat.le_of_eq rfl) (hb hby at_116) (fun _ _ => ⟨rfl, e7, (by decide : 1 + 4 ≤ _), (by decide : 5 + 32 ≤ _)⟩)
  dsimp only [Pt.U, Pt.locs, Pt.cells, Pt.slots] at X13 l13 y13 z13 st13 hQ13 hS13 hg13
  subst l13 y13 z13
  have hZ13 : Z.Warmed39 (s.setVm T13.vm).vm := State.Warmed39.trans hZ hS13.1
  have hown13 : (s.setVm T13.vm).vm.findClass "com/example/offer/offer/model/TransferStateIsFinalPinLaw" = some m.cls := by rw [show (s.setVm T13.vm).vm = T13.vm from rfl, hS13.1.alike.findClass]; exact hown
  obtain ⟨rfl, Nq13, K13⟩ := hQ13
  have N13 := Fr.app N7 Nq13
  have KK13 : Keep h0 T13.heap [] := KK1.trans K13 (fun x hx => nomatch hx)
  obtain ⟨fs, hr, hrun, hended, hRE⟩ := X13.leaveW hS13 (by exact (Nat.le_refl _)) (v := (some (.int 1))) (fun h => by rw [Bd.returns] at h; cases h)
  refine ⟨_, _, castTop (ef0_III m p0 p1 p2) ?_, hrun, hended, _, _, rfl, ?_, hRE.1, hRE.2.1, hRE.2.2.1, hRE.2.2.2.mono (by decide) (by decide)⟩
  · show Steps p.tables e below (s₁.setTop (mkF m 0 #[.val (.int p0), .val (.int p1), .val (.int p2), .unset, .unset, .unset, .unset, .unset, .unset, .unset] [])) _
    refine st1 _ ?_
    refine XS.iloadN X1.here hx rfl (hb hby at_35) rfl ?_
    show Steps p.tables e below (T1.setTop (mkF m 36 #[.val (.int p0), .val (.int p1), .val (.int p2), .val (.ref b159), .unset, .unset, .unset, .unset, .unset, .unset] [(.int p0)])) _
    refine X1.ldcInt hx hown (mvT hZ (tw_14 hw)) (g := (mkF m 36 #[.val (.int p0), .val (.int p1), .val (.int p2), .val (.ref b159), .unset, .unset, .unset, .unset, .unset, .unset] [(.int p0)])) rfl (hb hby at_36) _ ?_
    show Steps p.tables e below (T1.setTop (mkF m 38 #[.val (.int p0), .val (.int p1), .val (.int p2), .val (.ref b159), .unset, .unset, .unset, .unset, .unset, .unset] [(.int 2147483647), (.int p0)])) _
    refine XS.iand X1.here hx rfl (hb hby at_38) rfl ?_
    refine XS.iconst X1.here hx rfl (hb hby at_39) ?_
    show Steps p.tables e below (T1.setTop (mkF m 40 #[.val (.int p0), .val (.int p1), .val (.int p2), .val (.ref b159), .unset, .unset, .unset, .unset, .unset, .unset] [(.int 5), (.int (p0 &&& (2147483647 : Int32)))])) _
    refine iremM X1 hx rfl (hb hby at_40) rfl (by decide) ?_
    show Steps p.tables e below (T1.setTop (mkF m 41 #[.val (.int p0), .val (.int p1), .val (.int p2), .val (.ref b159), .unset, .unset, .unset, .unset, .unset, .unset] [(.int ((p0 &&& (2147483647 : Int32)) % (5 : Int32)))])) _
    rw [f11]
    refine XS.istore X1.here hx rfl (hb hby at_41) rfl (l' := #[.val (.int p0), .val (.int p1), .val (.int p2), .val (.ref b159), .val (.int 4), .unset, .unset, .unset, .unset, .unset]) rfl ?_
    refine XS.iloadN X1.here hx rfl (hb hby at_43) rfl ?_
    show Steps p.tables e below (T1.setTop (mkF m 44 #[.val (.int p0), .val (.int p1), .val (.int p2), .val (.ref b159), .val (.int 4), .unset, .unset, .unset, .unset, .unset] [(.int p1)])) _
    refine X1.ldcInt hx hown (mvT hZ (tw_14 hw)) (g := (mkF m 44 #[.val (.int p0), .val (.int p1), .val (.int p2), .val (.ref b159), .val (.int 4), .unset, .unset, .unset, .unset, .unset] [(.int p1)])) rfl (hb hby at_44) _ ?_
    show Steps p.tables e below (T1.setTop (mkF m 46 #[.val (.int p0), .val (.int p1), .val (.int p2), .val (.ref b159), .val (.int 4), .unset, .unset, .unset, .unset, .unset] [(.int 2147483647), (.int p1)])) _
    refine XS.iand X1.here hx rfl (hb hby at_46) rfl ?_
    refine XS.iconst X1.here hx rfl (hb hby at_47) ?_
    show Steps p.tables e below (T1.setTop (mkF m 48 #[.val (.int p0), .val (.int p1), .val (.int p2), .val (.ref b159), .val (.int 4), .unset, .unset, .unset, .unset, .unset] [(.int 5), (.int (p1 &&& (2147483647 : Int32)))])) _
    refine iremM X1 hx rfl (hb hby at_48) rfl (by decide) ?_
    show Steps p.tables e below (T1.setTop (mkF m 49 #[.val (.int p0), .val (.int p1), .val (.int p2), .val (.ref b159), .val (.int 4), .unset, .unset, .unset, .unset, .unset] [(.int ((p1 &&& (2147483647 : Int32)) % (5 : Int32)))])) _
    rw [f12]
    refine XS.istore X1.here hx rfl (hb hby at_49) rfl (l' := #[.val (.int p0), .val (.int p1), .val (.int p2), .val (.ref b159), .val (.int 4), .val (.int 2), .unset, .unset, .unset, .unset]) rfl ?_
    refine XS.iloadN X1.here hx rfl (hb hby at_51) rfl ?_
    refine XS.iconst X1.here hx rfl (hb hby at_52) ?_
    show Steps p.tables e below (T1.setTop (mkF m 53 #[.val (.int p0), .val (.int p1), .val (.int p2), .val (.ref b159), .val (.int 4), .val (.int 2), .unset, .unset, .unset, .unset] [(.int 1), (.int p2)])) _
    refine XS.iand X1.here hx rfl (hb hby at_53) rfl ?_
    refine XS.ifYes X1.here hx rfl (pc0 := 54) (pc' := 63) rfl (hb hby at_54) rfl ((if0 _ _).trans (teq (f13 : (p2 &&& (1 : Int32)) = (0 : Int32))).1) (by decide) (by decide) ?_
    show Steps p.tables e below (T1.setTop (mkF m 63 #[.val (.int p0), .val (.int p1), .val (.int p2), .val (.ref b159), .val (.int 4), .val (.int 2), .unset, .unset, .unset, .unset] [])) _
    refine st3 _ ?_
    refine XS.astore X3.here hx rfl (hb hby at_66) rfl rfl (l' := #[.val (.int p0), .val (.int p1), .val (.int p2), .val (.ref b159), .val (.int 4), .val (.int 2), .val (.ref a_CONSUMER), .unset, .unset, .unset]) rfl ?_
    refine XS.aloadN X3.here hx rfl (hb hby at_68) rfl rfl ?_
    refine XS.iload X3.here hx rfl (hb hby at_69) rfl ?_
    show Steps p.tables e below (T3.setTop (mkF m 71 #[.val (.int p0), .val (.int p1), .val (.int p2), .val (.ref b159), .val (.int 4), .val (.int 2), .val (.ref a_CONSUMER), .unset, .unset, .unset] [(.int 4), (.ref b159)])) _
    refine X3.aaload hx (j := (4 : Int32)) (v := (.ref a_TERMINATED)) (by rw [e3]; exact Ar4.1) (State.isArrayOf_alike hZ.alike Ar4.2.1) rfl Ar4.2.2 hin4 hat4 (g := (mkF m 71 #[.val (.int p0), .val (.int p1), .val (.int p2), .val (.ref b159), .val (.int 4), .val (.int 2), .val (.ref a_CONSUMER), .unset, .unset, .unset] [(.int 4), (.ref b159)])) rfl rfl (hb hby at_71) _ ?_
    refine XS.astore X3.here hx rfl (hb hby at_72) rfl rfl (l' := #[.val (.int p0), .val (.int p1), .val (.int p2), .val (.ref b159), .val (.int 4), .val (.int 2), .val (.ref a_CONSUMER), .val (.ref a_TERMINATED), .unset, .unset]) rfl ?_
    refine XS.aload X3.here hx rfl (hb hby at_74) rfl rfl ?_
    show Steps p.tables e below (T3.setTop (mkF m 76 #[.val (.int p0), .val (.int p1), .val (.int p2), .val (.ref b159), .val (.int 4), .val (.int 2), .val (.ref a_CONSUMER), .val (.ref a_TERMINATED), .unset, .unset] [(.ref a_TERMINATED)])) _
    refine st7.trans ?_
    refine XS.istore X7.here hx rfl (hb hby at_79) rfl (l' := #[.val (.int p0), .val (.int p1), .val (.int p2), .val (.ref b159), .val (.int 4), .val (.int 2), .val (.ref a_CONSUMER), .val (.ref a_TERMINATED), .val (.int 1), .unset]) rfl ?_
    refine XS.iload X7.here hx rfl (hb hby at_81) rfl ?_
    refine XS.iconst X7.here hx rfl (hb hby at_83) ?_
    refine XS.icmpNo X7.here hx rfl (hb hby at_84) rfl (by decide) ?_
    show Steps p.tables e below (T7.setTop (mkF m 87 #[.val (.int p0), .val (.int p1), .val (.int p2), .val (.ref b159), .val (.int 4), .val (.int 2), .val (.ref a_CONSUMER), .val (.ref a_TERMINATED), .val (.int 1), .unset] [])) _
    refine XS.iconst X7.here hx rfl (hb hby at_87) ?_
    refine XS.goto X7.here hx rfl (pc0 := 88) (pc' := 92) rfl (hb hby at_88) (by decide) (by decide) ?_
    refine XS.istore X7.here hx rfl (hb hby at_92) rfl (l' := #[.val (.int p0), .val (.int p1), .val (.int p2), .val (.ref b159), .val (.int 4), .val (.int 2), .val (.ref a_CONSUMER), .val (.ref a_TERMINATED), .val (.int 1), .val (.int 1)]) rfl ?_
    refine XS.iload X7.here hx rfl (hb hby at_94) rfl ?_
    refine XS.iload X7.here hx rfl (hb hby at_96) rfl ?_
    show Steps p.tables e below (T7.setTop (mkF m 98 #[.val (.int p0), .val (.int p1), .val (.int p2), .val (.ref b159), .val (.int 4), .val (.int 2), .val (.ref a_CONSUMER), .val (.ref a_TERMINATED), .val (.int 1), .val (.int 1)] [(.int 1), (.int 1)])) _
    refine XS.icmpYes X7.here hx rfl (pc0 := 98) (pc' := 103) rfl (hb hby at_98) rfl (by decide) (by decide) (by decide) ?_
    refine XS.iload X7.here hx rfl (hb hby at_103) rfl ?_
    refine XS.ifNo X7.here hx rfl (hb hby at_105) rfl (by decide) ?_
    refine XS.aload X7.here hx rfl (hb hby at_108) rfl rfl ?_
    refine XS.aloadN X7.here hx rfl (hb hby at_110) rfl rfl ?_
    show Steps p.tables e below (T7.setTop (mkF m 111 #[.val (.int p0), .val (.int p1), .val (.int p2), .val (.ref b159), .val (.int 4), .val (.int 2), .val (.ref a_CONSUMER), .val (.ref a_TERMINATED), .val (.int 1), .val (.int 1)] [(.ref b159), (.ref a_TERMINATED)])) _
    refine XS.iload X7.here hx rfl (hb hby at_111) rfl ?_
    show Steps p.tables e below (T7.setTop (mkF m 113 #[.val (.int p0), .val (.int p1), .val (.int p2), .val (.ref b159), .val (.int 4), .val (.int 2), .val (.ref a_CONSUMER), .val (.ref a_TERMINATED), .val (.int 1), .val (.int 1)] [(.int 2), (.ref b159), (.ref a_TERMINATED)])) _
    refine X7.aaload hx (j := (2 : Int32)) (v := (.ref a_SUSPENDED)) (by rw [e7]; exact Ar9.1) (State.isArrayOf_alike hZ.alike Ar9.2.1) rfl Ar9.2.2 hin9 hat9 (g := (mkF m 113 #[.val (.int p0), .val (.int p1), .val (.int p2), .val (.ref b159), .val (.int 4), .val (.int 2), .val (.ref a_CONSUMER), .val (.ref a_TERMINATED), .val (.int 1), .val (.int 1)] [(.int 2), (.ref b159), (.ref a_TERMINATED)])) rfl rfl (hb hby at_113) _ ?_
    refine XS.aload X7.here hx rfl (hb hby at_114) rfl rfl ?_
    show Steps p.tables e below (T7.setTop (mkF m 116 #[.val (.int p0), .val (.int p1), .val (.int p2), .val (.ref b159), .val (.int 4), .val (.int 2), .val (.ref a_CONSUMER), .val (.ref a_TERMINATED), .val (.int 1), .val (.int 1)] [(.ref a_CONSUMER), (.ref a_SUSPENDED), (.ref a_TERMINATED)])) _
    refine st13.trans ?_
    refine XS.ifYes X13.here hx rfl (pc0 := 119) (pc' := 124) rfl (hb hby at_119) rfl (by decide) (by decide) (by decide) ?_
    refine XS.iconst X13.here hx rfl (hb hby at_124) ?_
    show Steps p.tables e below (T13.setTop (mkF m 125 #[.val (.int p0), .val (.int p1), .val (.int p2), .val (.ref b159), .val (.int 4), .val (.int 2), .val (.ref a_CONSUMER), .val (.ref a_TERMINATED), .val (.int 1), .val (.int 1)] [(.int 1)])) _
    exact retN X13 hx (t := .boolean) Bd.returns (by simp) (hb hby at_125) hr
  · show QT n0 _ T13.heap _
    exact ⟨rfl, N13⟩
def Q2_171 (Z : State)  (h0 : Heap) (n0 : Nat) (v : Option Value) (h : Heap) (L : List Loc) : Prop := v = (some (.int 0)) ∧ Fr n0 L ∧ Keep h0 h []
set_option maxRecDepth 65536 in
set_option maxHeartbeats 40000000 in
theorem rm2_170 (l : Launch) (Z : State) (a0 : Array Value) (hw : ∀ d ∈ tables_1, d.before a0 Z = true) (ws : List Jvm.Cond) (a_TERMINATED : Addr) (a_SUSPENDED : Addr) (a_PROVIDER : Addr) (a_STARTED : Addr) (h0 : Heap) (n0 : Nat) (Z0 : n0 ≤ h0.size) (f1 : F_0 Z h0 a_SUSPENDED (.int 2)) (f2 : E_0 Z h0 a_SUSPENDED) (f3 : S_1 Z h0 (.ref a_STARTED)) (f4 : a_TERMINATED ≠ a_STARTED) :
    MetFree l M_4 (head1 (Jvm.Cond.code M_4 prog_6_method_5_code 3 (some .boolean) :: ws) R_1_4_32_13) (fun a U => a = #[(.ref a_TERMINATED), (.ref a_SUSPENDED), (.ref a_PROVIDER)] ∧ Z.Warmed39 U.vm ∧ U.heap = h0) (fun _ _ _ _ _ => True) (fun _ U o U' => ∃ v L, o = .returned v ∧ Q2_171 Z  h0 n0 v U'.heap L ∧ ReturnedEndW U o U' L R_1_4_32_13.cells R_1_4_32_13.slots) := by
  refine MetFree.of_bodySF (plainFor_of_name pn_com_example_offer_offer_model_TransferState) hisR ?_
  intro p e s m args below meth c s₁ Bd hml0 hP hK
  obtain ⟨rfl, hZ, hh⟩ := hP
  have hx := Bd.exec
  have hby := Bd.bytes
  have hml : c.maxLocals = 3 := hml0
  have hown : s.vm.findClass "com/example/offer/offer/model/TransferState" = some m.cls := findClass_of_methodNamed Bd.named
  have hnm := (name_of_methodNamed Bd.named Bd.method).1
  have X0 : Stand p l e R_1_4_32_13 s m #[(.ref a_TERMINATED), (.ref a_SUSPENDED), (.ref a_PROVIDER)] below meth c s₁ [] 0 0 := Stand.of_body Bd
  have e0 : s₁.heap = h0 := by rw [← hh, Bd.state]; rfl
  have N0 := Fr.nil n0
  obtain ⟨ax168, T1, h1, kz1, X1, e1, E1, hS1, hk1, hZ1, hown1, st1⟩ := ldcS (s := s) (vm0 := s.vm) X0 hx hZ hown (tw_32 hw) (own_strs hw) e0 ((State.WarmedH.refl s).since 0) (Nat.zero_le _) (g := (mkF m 1 #[.val (.ref a_TERMINATED), .val (.ref a_SUSPENDED), .val (.ref a_PROVIDER)] [(.ref a_SUSPENDED)])) rfl (hb hby d2_1) (n := 16) (by decide) (by decide) (by decide) (by decide)
  have KK1 : Keep h0 h1 [] := (Keep.refl h0 []).ext E1
  -- pc 3: java/util/Objects.requireNonNull
  obtain ⟨_, _, ⟨T2, L2, k2, n2⟩, -, X2, ⟨Lc2, hQ2, l2, y2, z2⟩, st2⟩ := Jvm.LawKit.callS X1 hx (y := M_1) hown1 (mvT hZ1 (tw_40 hw)) (mvT hZ1 (tw_41 hw)) (mvT hZ1 (tw_42 hw)) (mvT hZ1 (tw_43 hw)) (by decide) (backOf (W := 0) (rm3_85 l Z a0 hw [] a_SUSPENDED ax168 h1 n0 (Nat.le_trans Z0 KK1.1) ) hZ1 (tw_43 hw) (tw_42 hw) (by decide) (by decide)) (g := (mkF m 3 #[.val (.ref a_TERMINATED), .val (.ref a_SUSPENDED), .val (.ref a_PROVIDER)] [(.ref ax168), (.ref a_SUSPENDED)])) rfl (by rw [hml]; rfl) (argsL := [(.ref a_SUSPENDED), (.ref ax168)]) (rest := []) (lenOf pd_1 rfl) rfl (by show 2 * 0 + _ ≤ _; exact Nat.le_of_eq rfl) (hb hby d2_3) (fun _ _ => ⟨rfl, e1, (by decide : 2 + 0 ≤ _), (by decide : 20 + 0 ≤ _)⟩)
  dsimp only [Pt.U, Pt.locs, Pt.cells, Pt.slots] at X2 l2 y2 z2 st2 hQ2
  subst l2 y2 z2
  obtain ⟨rfl, Nq2, e2⟩ := hQ2
  have N2 := Fr.app N0 Nq2
  obtain ⟨ax169, T3, h3, kz3, X3, e3, E3, hS3, hk3, hZ3, hown3, st3⟩ := ldcS (s := s) (vm0 := T1.vm) X2 hx hZ1 hown1 (tw_44 hw) (own_strs hw) e2 hS1 hk1 (g := (mkF m 8 #[.val (.ref a_TERMINATED), .val (.ref a_SUSPENDED), .val (.ref a_PROVIDER)] [(.ref a_PROVIDER)])) rfl (hb hby d2_8) (n := 8) (by decide) (by decide) (by decide) (by decide)
  have KK3 : Keep h0 h3 [] := KK1.ext E3
  -- pc 10: java/util/Objects.requireNonNull
  obtain ⟨_, _, ⟨T4, L4, k4, n4⟩, -, X4, ⟨Lc4, hQ4, l4, y4, z4⟩, st4⟩ := Jvm.LawKit.callS X3 hx (y := M_1) hown3 (mvT hZ3 (tw_40 hw)) (mvT hZ3 (tw_41 hw)) (mvT hZ3 (tw_42 hw)) (mvT hZ3 (tw_43 hw)) (by decide) (backOf (W := 0) (rm3_62 l Z a0 hw [] a_PROVIDER ax169 h3 n0 (Nat.le_trans Z0 KK3.1) ) hZ3 (tw_43 hw) (tw_42 hw) (by decide) (by decide)) (g := (mkF m 10 #[.val (.ref a_TERMINATED), .val (.ref a_SUSPENDED), .val (.ref a_PROVIDER)] [(.ref ax169), (.ref a_PROVIDER)])) rfl (by rw [hml]; rfl) (argsL := [(.ref a_PROVIDER), (.ref ax169)]) (rest := []) (lenOf pd_1 rfl) rfl (by show 2 * 0 + _ ≤ _; exact Nat.le_of_eq rfl) (hb hby d2_10) (fun _ _ => ⟨rfl, e3, (by decide : 4 + 0 ≤ _), (by decide : 32 + 0 ≤ _)⟩)
  dsimp only [Pt.U, Pt.locs, Pt.cells, Pt.slots] at X4 l4 y4 z4 st4 hQ4
  subst l4 y4 z4
  obtain ⟨rfl, Nq4, e4⟩ := hQ4
  have N4 := Fr.app N2 Nq4
  -- pc 15: java/lang/Enum.ordinal
  have u5 : F_0 Z h1 a_SUSPENDED (.int 2) := Fld.ext E1 f1
  have u6 : F_0 Z h3 a_SUSPENDED (.int 2) := Fld.ext E3 u5
  have u8 : E_0 Z h1 a_SUSPENDED := Exa.ext E1 f2
  have u9 : E_0 Z h3 a_SUSPENDED := Exa.ext E3 u8
  obtain ⟨cq7, kq7, q7a, q7b, q7c⟩ := isOf hZ3 e4 u9
  obtain ⟨_, _, ⟨T7, L7, k7, n7⟩, -, X7, ⟨Lc7, hQ7, l7, y7, z7⟩, st7⟩ := X4.virtualBackUp hx (x := M_3) (y := M_2) (owner := "java/lang/Enum") hown3 (mvT hZ3 (tw_45 hw)) (mvT hZ3 (tw_46 hw)) (mvT hZ3 (tw_47 hw)) (by decide) (mvT hZ3 (tw_49 hw)) (mvT hZ3 (tw_48 hw)) (backOf (W := 0) (rm4_87 l Z a0 hw [] a_SUSPENDED h3 n0 (Nat.le_trans Z0 KK3.1) u6) hZ3 (tw_51 hw) (tw_50 hw) (by decide) (by decide)) q7a q7c (g := (mkF m 15 #[.val (.ref a_TERMINATED), .val (.ref a_SUSPENDED), .val (.ref a_PROVIDER)] [(.ref a_SUSPENDED)])) rfl (by rw [hml]; rfl) (Steps.refl _) (argsL := []) (rest := []) (lenOf pd_2 rfl) rfl (by show 2 * 0 + _ ≤ _; exact Nat.le_of_eq rfl) (hb hby d2_15) (fun _ _ => ⟨rfl, e4, (by decide : 4 + 0 ≤ _), (by decide : 32 + 0 ≤ _)⟩)
  dsimp only [Pt.U, Pt.locs, Pt.cells, Pt.slots] at X7 l7 y7 z7 st7 hQ7
  subst l7 y7 z7
  obtain ⟨rfl, Nq7, e7⟩ := hQ7
  have N7 := Fr.app N4 Nq7
  have u10 : S_1 Z h1 (.ref a_STARTED) := Sta.ext E1 f3
  have u11 : S_1 Z h3 (.ref a_STARTED) := Sta.ext E3 u10
  obtain ⟨T12, X12, e12, st12⟩ := getS2 X7 hx hZ3 hown3 (host := "") (Or.inl (tw_57 hw)) Via.refl e7 u11 (g := (mkF m 96 #[.val (.ref a_TERMINATED), .val (.ref a_SUSPENDED), .val (.ref a_PROVIDER)] [(.ref a_TERMINATED)])) rfl (hb hby d2_96)
  obtain ⟨fs, hr, hrun, hended, hRE⟩ := X12.leaveW hS3 (by rw [e12]; exact hk3) (v := (some (.int 0))) (fun h => by rw [Bd.returns] at h; cases h)
  refine ⟨_, _, castTop (ef2_RRR m a_TERMINATED a_SUSPENDED a_PROVIDER) ?_, hrun, hended, _, _, rfl, ?_, hRE.1, hRE.2.1, hRE.2.2.1, hRE.2.2.2.mono (by decide) (by decide)⟩
  · show Steps p.tables e below (s₁.setTop (mkF m 0 #[.val (.ref a_TERMINATED), .val (.ref a_SUSPENDED), .val (.ref a_PROVIDER)] [])) _
    refine XS.aloadN X0.here hx rfl (hb hby d2_0) rfl rfl ?_
    show Steps p.tables e below (s₁.setTop (mkF m 1 #[.val (.ref a_TERMINATED), .val (.ref a_SUSPENDED), .val (.ref a_PROVIDER)] [(.ref a_SUSPENDED)])) _
    refine st1 _ ?_
    show Steps p.tables e below (T1.setTop (mkF m 3 #[.val (.ref a_TERMINATED), .val (.ref a_SUSPENDED), .val (.ref a_PROVIDER)] [(.ref ax168), (.ref a_SUSPENDED)])) _
    refine st2 _ ?_
    refine XS.pop X2.here hx rfl (hb hby d2_6) rfl rfl ?_
    refine XS.aloadN X2.here hx rfl (hb hby d2_7) rfl rfl ?_
    show Steps p.tables e below (T2.setTop (mkF m 8 #[.val (.ref a_TERMINATED), .val (.ref a_SUSPENDED), .val (.ref a_PROVIDER)] [(.ref a_PROVIDER)])) _
    refine st3 _ ?_
    show Steps p.tables e below (T3.setTop (mkF m 10 #[.val (.ref a_TERMINATED), .val (.ref a_SUSPENDED), .val (.ref a_PROVIDER)] [(.ref ax169), (.ref a_PROVIDER)])) _
    refine st4 _ ?_
    refine XS.pop X4.here hx rfl (hb hby d2_13) rfl rfl ?_
    refine XS.aloadN X4.here hx rfl (hb hby d2_14) rfl rfl ?_
    show Steps p.tables e below (T4.setTop (mkF m 15 #[.val (.ref a_TERMINATED), .val (.ref a_SUSPENDED), .val (.ref a_PROVIDER)] [(.ref a_SUSPENDED)])) _
    refine st7.trans ?_
    show Steps p.tables e below (T7.setTop (mkF m 18 #[.val (.ref a_TERMINATED), .val (.ref a_SUSPENDED), .val (.ref a_PROVIDER)] [(.int 2)])) _
    refine XS.tswIn X7.here hx rfl (pc0 := 18) (pc' := 95) (o := 77) rfl (hb hby d2_18) rfl (by decide) (by decide) (by decide) (by decide) ?_
    refine XS.aloadN X7.here hx rfl (hb hby d2_95) rfl rfl ?_
    show Steps p.tables e below (T7.setTop (mkF m 96 #[.val (.ref a_TERMINATED), .val (.ref a_SUSPENDED), .val (.ref a_PROVIDER)] [(.ref a_TERMINATED)])) _
    refine st12 _ ?_
    show Steps p.tables e below (T12.setTop (mkF m 99 #[.val (.ref a_TERMINATED), .val (.ref a_SUSPENDED), .val (.ref a_PROVIDER)] [(.ref a_STARTED), (.ref a_TERMINATED)])) _
    refine Jvm.RoadKit.acmp (g := (mkF m 99 #[.val (.ref a_TERMINATED), .val (.ref a_SUSPENDED), .val (.ref a_PROVIDER)] [(.ref a_STARTED), (.ref a_TERMINATED)])) X12 hx rfl rfl rfl (pc0 := 99) (pc' := 106) (same := false) rfl (hb hby d2_99) rfl (decide_eq_false fun q => f4 (Value.ref.inj q)) (by decide) (by decide) ?_
    refine XS.iconst X12.here hx rfl (hb hby d2_106) ?_
    refine XS.goto X12.here hx rfl (pc0 := 107) (pc' := 122) rfl (hb hby d2_107) (by decide) (by decide) ?_
    show Steps p.tables e below (T12.setTop (mkF m 122 #[.val (.ref a_TERMINATED), .val (.ref a_SUSPENDED), .val (.ref a_PROVIDER)] [(.int 0)])) _
    exact retN X12 hx (t := .boolean) Bd.returns (by simp) (hb hby d2_122) hr
  · show Q2_171 Z  h0 n0 _ T12.heap _
    rw [e12]
    exact ⟨rfl, N7, KK3⟩
set_option maxRecDepth 65536 in
set_option maxHeartbeats 40000000 in
theorem rm0_172 (l : Launch) (Z : State) (a0 : Array Value) (hw : ∀ d ∈ tables_1, d.before a0 Z = true) (ws : List Jvm.Cond) (p0 : Int32) (p1 : Int32) (p2 : Int32) (a_REQUESTED : Addr) (a_STARTED : Addr) (a_SUSPENDED : Addr) (a_COMPLETED : Addr) (a_TERMINATED : Addr) (a_PROVIDER : Addr) (h0 : Heap) (n0 : Nat) (Z0 : n0 ≤ h0.size) (f1 : S_0 Z h0 (.ref a_REQUESTED)) (f2 : E_0 Z h0 a_REQUESTED) (f3 : S_1 Z h0 (.ref a_STARTED)) (f4 : E_0 Z h0 a_STARTED) (f5 : S_2 Z h0 (.ref a_SUSPENDED)) (f6 : E_0 Z h0 a_SUSPENDED) (f7 : S_3 Z h0 (.ref a_COMPLETED)) (f8 : E_0 Z h0 a_COMPLETED) (f9 : S_4 Z h0 (.ref a_TERMINATED)) (f10 : E_0 Z h0 a_TERMINATED) (f11 : ((p0 &&& (2147483647 : Int32)) % (5 : Int32)) = (4 : Int32)) (f12 : ((p1 &&& (2147483647 : Int32)) % (5 : Int32)) = (2 : Int32)) (f13 : ¬ ((p2 &&& (1 : Int32)) = (0 : Int32))) (f14 : S_6 Z h0 (.ref a_PROVIDER)) (f15 : a_COMPLETED ≠ a_TERMINATED) (f16 : F_0 Z h0 a_SUSPENDED (.int 2)) (f17 : a_TERMINATED ≠ a_STARTED) :
    MetFree l x (head1 (Jvm.Cond.code x code maxLocals ret :: ws) room_1) (fun a U => a = #[(.int p0), (.int p1), (.int p2)] ∧ Z.Warmed39 U.vm ∧ U.heap = h0) (fun _ _ _ _ _ => True) (fun _ U o U' => ∃ v L, o = .returned v ∧ QT n0 v U'.heap L ∧ ReturnedEndW U o U' L room_1.cells room_1.slots) := by
  refine MetFree.of_bodySF (plainFor_of_name pn_com_example_offer_offer_model_TransferStateIsFinalPinLaw) hisR ?_
  intro p e s m args below meth c s₁ Bd hml0 hP hK
  obtain ⟨rfl, hZ, hh⟩ := hP
  have hx := Bd.exec
  have hby := Bd.bytes
  have hml : c.maxLocals = 10 := hml0
  have hown : s.vm.findClass "com/example/offer/offer/model/TransferStateIsFinalPinLaw" = some m.cls := findClass_of_methodNamed Bd.named
  have hnm := (name_of_methodNamed Bd.named Bd.method).1
  have X0 : Stand p l e room_1 s m #[(.int p0), (.int p1), (.int p2)] below meth c s₁ [] 0 0 := Stand.of_body Bd
  have e0 : s₁.heap = h0 := by rw [← hh, Bd.state]; rfl
  have N0 := Fr.nil n0
  obtain ⟨T1, h1, L1, b166, kc167, X1, e1, N1, K1, le_b166, o1_0, o1_1, st1⟩ := sg0_25 p0 p1 p2 a_REQUESTED a_STARTED a_SUSPENDED a_COMPLETED a_TERMINATED X0 hx hZ hw hby hml hown e0 N0 Z0 f1 f2 f3 f4 f5 f6 f7 f8 f9 f10
  have sz_b166 : h0.size ≤ b166 := Nat.le_trans (Nat.le_refl _) le_b166
  have g_b166 : n0 ≤ b166 := Nat.le_trans Z0 sz_b166
  have KK1 : Keep h0 h1 [] := (Keep.refl h0 []).trans K1 (fun x hx => nomatch hx)
  have u2 : S_6 Z h1 (.ref a_PROVIDER) := own_sta_keep f14 K1 (fun _ q => nomatch q)
  obtain ⟨T3, X3, e3, st3⟩ := getS2 X1 hx hZ hown (host := "") (Or.inl (tw_25 hw)) Via.refl e1 u2 (g := (mkF m 57 #[.val (.int p0), .val (.int p1), .val (.int p2), .val (.ref b166), .val (.int 4), .val (.int 2), .unset, .unset, .unset, .unset] [])) rfl (hb hby at_57)
  have va4 := o1_0
  obtain ⟨cl4, Ar4, -, S4, -, H4, -⟩ := va4
  have hin4 : ¬ ((4 : Int32) < 0 ∨ cl4.slots.size ≤ ((4 : Int32)).toNatClampNeg) := inb_of S4 ⟨by decide, by decide⟩
  have hat4 : cl4.slots[((4 : Int32)).toNatClampNeg]? = some (.ref a_TERMINATED) := H4 _ (Nat.lt_of_not_le fun y => hin4 (Or.inr y))
  -- pc 76: com/example/offer/offer/model/TransferState.isFinal
  have u5 : S_3 Z h1 (.ref a_COMPLETED) := own_sta_keep f7 K1 (fun _ q => nomatch q)
  have u6 : S_4 Z h1 (.ref a_TERMINATED) := own_sta_keep f9 K1 (fun _ q => nomatch q)
  have u8 : E_0 Z h1 a_TERMINATED := Exa.keep f10 K1
  obtain ⟨cq7, kq7, q7a, q7b, q7c⟩ := isOf hZ e3 u8
  obtain ⟨_, _, ⟨T7, L7, k7, n7⟩, -, X7, ⟨Lc7, hQ7, l7, y7, z7⟩, st7⟩ := X3.virtualBack hx (y := M_0) (z := M_0) hown (mvT hZ (tw_18 hw)) (mvT hZ (tw_19 hw)) (notFace_of_selects (args := #[]) (mvT hZ (tw_21 hw))) (mvT hZ (tw_21 hw)) (mvT hZ (tw_20 hw)) (by decide) (backOf (W := 0) (rm1_132 l Z a0 hw [] a_TERMINATED a_COMPLETED h1 n0 (Nat.le_trans Z0 KK1.1) u5 f15 u6) hZ (tw_22 hw) (tw_3 hw) (by decide) (by decide)) q7a q7c (g := (mkF m 76 #[.val (.int p0), .val (.int p1), .val (.int p2), .val (.ref b166), .val (.int 4), .val (.int 2), .val (.ref a_PROVIDER), .val (.ref a_TERMINATED), .unset, .unset] [(.ref a_TERMINATED)])) rfl (by rw [hml]; rfl) (Steps.refl _) (argsL := []) (rest := []) (lenOf pd_0 rfl) rfl (by show 2 * 0 + _ ≤ _; exact Nat.le_of_eq rfl) (hb hby at_76) (fun _ _ => ⟨rfl, e3, (by decide : 1 + 0 ≤ _), (by decide : 5 + 0 ≤ _)⟩)
  dsimp only [Pt.U, Pt.locs, Pt.cells, Pt.slots] at X7 l7 y7 z7 st7 hQ7
  subst l7 y7 z7
  obtain ⟨rfl, Nq7, e7⟩ := hQ7
  have N7 := Fr.app N1 Nq7
  have va9 := o1_0
  obtain ⟨cl9, Ar9, -, S9, -, H9, -⟩ := va9
  have hin9 : ¬ ((2 : Int32) < 0 ∨ cl9.slots.size ≤ ((2 : Int32)).toNatClampNeg) := inb_of S9 ⟨by decide, by decide⟩
  have hat9 : cl9.slots[((2 : Int32)).toNatClampNeg]? = some (.ref a_SUSPENDED) := H9 _ (Nat.lt_of_not_le fun y => hin9 (Or.inr y))
  -- pc 116: com/example/offer/offer/model/TransferState.canMoveTo
  have u10 : F_0 Z h1 a_SUSPENDED (.int 2) := Fld.keep f16 K1 List.not_mem_nil
  have u11 : E_0 Z h1 a_SUSPENDED := Exa.keep f6 K1
  have u12 : S_1 Z h1 (.ref a_STARTED) := own_sta_keep f3 K1 (fun _ q => nomatch q)
  obtain ⟨cq13, kq13, q13a, q13b, q13c⟩ := isOf hZ e7 u8
  obtain ⟨_, _, ⟨T13, L13, k13, n13⟩, -, X13, hS13, hg13, ⟨Lc13, hQ13, l13, y13, z13⟩, st13⟩ := X7.virtualBackS hx (y := M_4) (z := M_4) hown (mvT hZ (tw_27 hw)) (mvT hZ (tw_28 hw)) (notFace_of_selects (args := #[]) (mvT hZ (tw_30 hw))) (mvT hZ (tw_30 hw)) (mvT hZ (tw_29 hw)) (by decide) (backOfS (W := 0) (rm2_170 l Z a0 hw [] a_TERMINATED a_SUSPENDED a_PROVIDER a_STARTED h1 n0 (Nat.le_trans Z0 KK1.1) u10 u11 u12 f17) hZ (tw_31 hw) (tw_3 hw) (by decide) (by decide)) q13a q13c (g := (mkF m 116 #[.val (.int p0), .val (.int p1), .val (.int p2), .val (.ref b166), .val (.int 4), .val (.int 2), .val (.ref a_PROVIDER), .val (.ref a_TERMINATED), .val (.int 1), .val (.int 1)] [(.ref a_PROVIDER), (.ref a_SUSPENDED), (.ref a_TERMINATED)])) rfl (by rw [hml]; rfl) (Steps.refl _) (argsL := [(.ref a_SUSPENDED), (.ref a_PROVIDER)]) (rest := []) (lenOf pd_3 rfl) rfl (by show 2 * 0 + _ ≤ _; exact Nat.le_of_eq rfl) (hb hby at_116) (fun _ _ => ⟨rfl, e7, (by decide : 1 + 4 ≤ _), (by decide : 5 + 32 ≤ _)⟩)
  dsimp only [Pt.U, Pt.locs, Pt.cells, Pt.slots] at X13 l13 y13 z13 st13 hQ13 hS13 hg13
  subst l13 y13 z13
  have hZ13 : Z.Warmed39 (s.setVm T13.vm).vm := State.Warmed39.trans hZ hS13.1
  have hown13 : (s.setVm T13.vm).vm.findClass "com/example/offer/offer/model/TransferStateIsFinalPinLaw" = some m.cls := by rw [show (s.setVm T13.vm).vm = T13.vm from rfl, hS13.1.alike.findClass]; exact hown
  obtain ⟨rfl, Nq13, K13⟩ := hQ13
  have N13 := Fr.app N7 Nq13
  have KK13 : Keep h0 T13.heap [] := KK1.trans K13 (fun x hx => nomatch hx)
  obtain ⟨fs, hr, hrun, hended, hRE⟩ := X13.leaveW hS13 (by exact (Nat.le_refl _)) (v := (some (.int 1))) (fun h => by rw [Bd.returns] at h; cases h)
  refine ⟨_, _, castTop (ef0_III m p0 p1 p2) ?_, hrun, hended, _, _, rfl, ?_, hRE.1, hRE.2.1, hRE.2.2.1, hRE.2.2.2.mono (by decide) (by decide)⟩
  · show Steps p.tables e below (s₁.setTop (mkF m 0 #[.val (.int p0), .val (.int p1), .val (.int p2), .unset, .unset, .unset, .unset, .unset, .unset, .unset] [])) _
    refine st1 _ ?_
    refine XS.iloadN X1.here hx rfl (hb hby at_35) rfl ?_
    show Steps p.tables e below (T1.setTop (mkF m 36 #[.val (.int p0), .val (.int p1), .val (.int p2), .val (.ref b166), .unset, .unset, .unset, .unset, .unset, .unset] [(.int p0)])) _
    refine X1.ldcInt hx hown (mvT hZ (tw_14 hw)) (g := (mkF m 36 #[.val (.int p0), .val (.int p1), .val (.int p2), .val (.ref b166), .unset, .unset, .unset, .unset, .unset, .unset] [(.int p0)])) rfl (hb hby at_36) _ ?_
    show Steps p.tables e below (T1.setTop (mkF m 38 #[.val (.int p0), .val (.int p1), .val (.int p2), .val (.ref b166), .unset, .unset, .unset, .unset, .unset, .unset] [(.int 2147483647), (.int p0)])) _
    refine XS.iand X1.here hx rfl (hb hby at_38) rfl ?_
    refine XS.iconst X1.here hx rfl (hb hby at_39) ?_
    show Steps p.tables e below (T1.setTop (mkF m 40 #[.val (.int p0), .val (.int p1), .val (.int p2), .val (.ref b166), .unset, .unset, .unset, .unset, .unset, .unset] [(.int 5), (.int (p0 &&& (2147483647 : Int32)))])) _
    refine iremM X1 hx rfl (hb hby at_40) rfl (by decide) ?_
    show Steps p.tables e below (T1.setTop (mkF m 41 #[.val (.int p0), .val (.int p1), .val (.int p2), .val (.ref b166), .unset, .unset, .unset, .unset, .unset, .unset] [(.int ((p0 &&& (2147483647 : Int32)) % (5 : Int32)))])) _
    rw [f11]
    refine XS.istore X1.here hx rfl (hb hby at_41) rfl (l' := #[.val (.int p0), .val (.int p1), .val (.int p2), .val (.ref b166), .val (.int 4), .unset, .unset, .unset, .unset, .unset]) rfl ?_
    refine XS.iloadN X1.here hx rfl (hb hby at_43) rfl ?_
    show Steps p.tables e below (T1.setTop (mkF m 44 #[.val (.int p0), .val (.int p1), .val (.int p2), .val (.ref b166), .val (.int 4), .unset, .unset, .unset, .unset, .unset] [(.int p1)])) _
    refine X1.ldcInt hx hown (mvT hZ (tw_14 hw)) (g := (mkF m 44 #[.val (.int p0), .val (.int p1), .val (.int p2), .val (.ref b166), .val (.int 4), .unset, .unset, .unset, .unset, .unset] [(.int p1)])) rfl (hb hby at_44) _ ?_
    show Steps p.tables e below (T1.setTop (mkF m 46 #[.val (.int p0), .val (.int p1), .val (.int p2), .val (.ref b166), .val (.int 4), .unset, .unset, .unset, .unset, .unset] [(.int 2147483647), (.int p1)])) _
    refine XS.iand X1.here hx rfl (hb hby at_46) rfl ?_
    refine XS.iconst X1.here hx rfl (hb hby at_47) ?_
    show Steps p.tables e below (T1.setTop (mkF m 48 #[.val (.int p0), .val (.int p1), .val (.int p2), .val (.ref b166), .val (.int 4), .unset, .unset, .unset, .unset, .unset] [(.int 5), (.int (p1 &&& (2147483647 : Int32)))])) _
    refine iremM X1 hx rfl (hb hby at_48) rfl (by decide) ?_
    show Steps p.tables e below (T1.setTop (mkF m 49 #[.val (.int p0), .val (.int p1), .val (.int p2), .val (.ref b166), .val (.int 4), .unset, .unset, .unset, .unset, .unset] [(.int ((p1 &&& (2147483647 : Int32)) % (5 : Int32)))])) _
    rw [f12]
    refine XS.istore X1.here hx rfl (hb hby at_49) rfl (l' := #[.val (.int p0), .val (.int p1), .val (.int p2), .val (.ref b166), .val (.int 4), .val (.int 2), .unset, .unset, .unset, .unset]) rfl ?_
    refine XS.iloadN X1.here hx rfl (hb hby at_51) rfl ?_
    refine XS.iconst X1.here hx rfl (hb hby at_52) ?_
    show Steps p.tables e below (T1.setTop (mkF m 53 #[.val (.int p0), .val (.int p1), .val (.int p2), .val (.ref b166), .val (.int 4), .val (.int 2), .unset, .unset, .unset, .unset] [(.int 1), (.int p2)])) _
    refine XS.iand X1.here hx rfl (hb hby at_53) rfl ?_
    refine XS.ifNo X1.here hx rfl (hb hby at_54) rfl ((if0 _ _).trans (feq (f13 : ¬ ((p2 &&& (1 : Int32)) = (0 : Int32)))).1) ?_
    show Steps p.tables e below (T1.setTop (mkF m 57 #[.val (.int p0), .val (.int p1), .val (.int p2), .val (.ref b166), .val (.int 4), .val (.int 2), .unset, .unset, .unset, .unset] [])) _
    refine st3 _ ?_
    refine XS.goto X3.here hx rfl (pc0 := 60) (pc' := 66) rfl (hb hby at_60) (by decide) (by decide) ?_
    refine XS.astore X3.here hx rfl (hb hby at_66) rfl rfl (l' := #[.val (.int p0), .val (.int p1), .val (.int p2), .val (.ref b166), .val (.int 4), .val (.int 2), .val (.ref a_PROVIDER), .unset, .unset, .unset]) rfl ?_
    refine XS.aloadN X3.here hx rfl (hb hby at_68) rfl rfl ?_
    refine XS.iload X3.here hx rfl (hb hby at_69) rfl ?_
    show Steps p.tables e below (T3.setTop (mkF m 71 #[.val (.int p0), .val (.int p1), .val (.int p2), .val (.ref b166), .val (.int 4), .val (.int 2), .val (.ref a_PROVIDER), .unset, .unset, .unset] [(.int 4), (.ref b166)])) _
    refine X3.aaload hx (j := (4 : Int32)) (v := (.ref a_TERMINATED)) (by rw [e3]; exact Ar4.1) (State.isArrayOf_alike hZ.alike Ar4.2.1) rfl Ar4.2.2 hin4 hat4 (g := (mkF m 71 #[.val (.int p0), .val (.int p1), .val (.int p2), .val (.ref b166), .val (.int 4), .val (.int 2), .val (.ref a_PROVIDER), .unset, .unset, .unset] [(.int 4), (.ref b166)])) rfl rfl (hb hby at_71) _ ?_
    refine XS.astore X3.here hx rfl (hb hby at_72) rfl rfl (l' := #[.val (.int p0), .val (.int p1), .val (.int p2), .val (.ref b166), .val (.int 4), .val (.int 2), .val (.ref a_PROVIDER), .val (.ref a_TERMINATED), .unset, .unset]) rfl ?_
    refine XS.aload X3.here hx rfl (hb hby at_74) rfl rfl ?_
    show Steps p.tables e below (T3.setTop (mkF m 76 #[.val (.int p0), .val (.int p1), .val (.int p2), .val (.ref b166), .val (.int 4), .val (.int 2), .val (.ref a_PROVIDER), .val (.ref a_TERMINATED), .unset, .unset] [(.ref a_TERMINATED)])) _
    refine st7.trans ?_
    refine XS.istore X7.here hx rfl (hb hby at_79) rfl (l' := #[.val (.int p0), .val (.int p1), .val (.int p2), .val (.ref b166), .val (.int 4), .val (.int 2), .val (.ref a_PROVIDER), .val (.ref a_TERMINATED), .val (.int 1), .unset]) rfl ?_
    refine XS.iload X7.here hx rfl (hb hby at_81) rfl ?_
    refine XS.iconst X7.here hx rfl (hb hby at_83) ?_
    refine XS.icmpNo X7.here hx rfl (hb hby at_84) rfl (by decide) ?_
    show Steps p.tables e below (T7.setTop (mkF m 87 #[.val (.int p0), .val (.int p1), .val (.int p2), .val (.ref b166), .val (.int 4), .val (.int 2), .val (.ref a_PROVIDER), .val (.ref a_TERMINATED), .val (.int 1), .unset] [])) _
    refine XS.iconst X7.here hx rfl (hb hby at_87) ?_
    refine XS.goto X7.here hx rfl (pc0 := 88) (pc' := 92) rfl (hb hby at_88) (by decide) (by decide) ?_
    refine XS.istore X7.here hx rfl (hb hby at_92) rfl (l' := #[.val (.int p0), .val (.int p1), .val (.int p2), .val (.ref b166), .val (.int 4), .val (.int 2), .val (.ref a_PROVIDER), .val (.ref a_TERMINATED), .val (.int 1), .val (.int 1)]) rfl ?_
    refine XS.iload X7.here hx rfl (hb hby at_94) rfl ?_
    refine XS.iload X7.here hx rfl (hb hby at_96) rfl ?_
    show Steps p.tables e below (T7.setTop (mkF m 98 #[.val (.int p0), .val (.int p1), .val (.int p2), .val (.ref b166), .val (.int 4), .val (.int 2), .val (.ref a_PROVIDER), .val (.ref a_TERMINATED), .val (.int 1), .val (.int 1)] [(.int 1), (.int 1)])) _
    refine XS.icmpYes X7.here hx rfl (pc0 := 98) (pc' := 103) rfl (hb hby at_98) rfl (by decide) (by decide) (by decide) ?_
    refine XS.iload X7.here hx rfl (hb hby at_103) rfl ?_
    refine XS.ifNo X7.here hx rfl (hb hby at_105) rfl (by decide) ?_
    refine XS.aload X7.here hx rfl (hb hby at_108) rfl rfl ?_
    refine XS.aloadN X7.here hx rfl (hb hby at_110) rfl rfl ?_
    show Steps p.tables e below (T7.setTop (mkF m 111 #[.val (.int p0), .val (.int p1), .val (.int p2), .val (.ref b166), .val (.int 4), .val (.int 2), .val (.ref a_PROVIDER), .val (.ref a_TERMINATED), .val (.int 1), .val (.int 1)] [(.ref b166), (.ref a_TERMINATED)])) _
    refine XS.iload X7.here hx rfl (hb hby at_111) rfl ?_
    show Steps p.tables e below (T7.setTop (mkF m 113 #[.val (.int p0), .val (.int p1), .val (.int p2), .val (.ref b166), .val (.int 4), .val (.int 2), .val (.ref a_PROVIDER), .val (.ref a_TERMINATED), .val (.int 1), .val (.int 1)] [(.int 2), (.ref b166), (.ref a_TERMINATED)])) _
    refine X7.aaload hx (j := (2 : Int32)) (v := (.ref a_SUSPENDED)) (by rw [e7]; exact Ar9.1) (State.isArrayOf_alike hZ.alike Ar9.2.1) rfl Ar9.2.2 hin9 hat9 (g := (mkF m 113 #[.val (.int p0), .val (.int p1), .val (.int p2), .val (.ref b166), .val (.int 4), .val (.int 2), .val (.ref a_PROVIDER), .val (.ref a_TERMINATED), .val (.int 1), .val (.int 1)] [(.int 2), (.ref b166), (.ref a_TERMINATED)])) rfl rfl (hb hby at_113) _ ?_
    refine XS.aload X7.here hx rfl (hb hby at_114) rfl rfl ?_
    show Steps p.tables e below (T7.setTop (mkF m 116 #[.val (.int p0), .val (.int p1), .val (.int p2), .val (.ref b166), .val (.int 4), .val (.int 2), .val (.ref a_PROVIDER), .val (.ref a_TERMINATED), .val (.int 1), .val (.int 1)] [(.ref a_PROVIDER), (.ref a_SUSPENDED), (.ref a_TERMINATED)])) _
    refine st13.trans ?_
    refine XS.ifYes X13.here hx rfl (pc0 := 119) (pc' := 124) rfl (hb hby at_119) rfl (by decide) (by decide) (by decide) ?_
    refine XS.iconst X13.here hx rfl (hb hby at_124) ?_
    show Steps p.tables e below (T13.setTop (mkF m 125 #[.val (.int p0), .val (.int p1), .val (.int p2), .val (.ref b166), .val (.int 4), .val (.int 2), .val (.ref a_PROVIDER), .val (.ref a_TERMINATED), .val (.int 1), .val (.int 1)] [(.int 1)])) _
    exact retN X13 hx (t := .boolean) Bd.returns (by simp) (hb hby at_125) hr
  · show QT n0 _ T13.heap _
    exact ⟨rfl, N13⟩
def Q2_178 (Z : State)  (h0 : Heap) (n0 : Nat) (v : Option Value) (h : Heap) (L : List Loc) : Prop := v = (some (.int 0)) ∧ Fr n0 L ∧ Keep h0 h []
set_option maxRecDepth 65536 in
set_option maxHeartbeats 40000000 in
theorem rm2_177 (l : Launch) (Z : State) (a0 : Array Value) (hw : ∀ d ∈ tables_1, d.before a0 Z = true) (ws : List Jvm.Cond) (a_TERMINATED : Addr) (a_COMPLETED : Addr) (a_CONSUMER : Addr) (a_STARTED : Addr) (h0 : Heap) (n0 : Nat) (Z0 : n0 ≤ h0.size) (f1 : F_0 Z h0 a_COMPLETED (.int 3)) (f2 : E_0 Z h0 a_COMPLETED) (f3 : S_1 Z h0 (.ref a_STARTED)) (f4 : a_TERMINATED ≠ a_STARTED) :
    MetFree l M_4 (head1 (Jvm.Cond.code M_4 prog_6_method_5_code 3 (some .boolean) :: ws) R_1_4_32_13) (fun a U => a = #[(.ref a_TERMINATED), (.ref a_COMPLETED), (.ref a_CONSUMER)] ∧ Z.Warmed39 U.vm ∧ U.heap = h0) (fun _ _ _ _ _ => True) (fun _ U o U' => ∃ v L, o = .returned v ∧ Q2_178 Z  h0 n0 v U'.heap L ∧ ReturnedEndW U o U' L R_1_4_32_13.cells R_1_4_32_13.slots) := by
  refine MetFree.of_bodySF (plainFor_of_name pn_com_example_offer_offer_model_TransferState) hisR ?_
  intro p e s m args below meth c s₁ Bd hml0 hP hK
  obtain ⟨rfl, hZ, hh⟩ := hP
  have hx := Bd.exec
  have hby := Bd.bytes
  have hml : c.maxLocals = 3 := hml0
  have hown : s.vm.findClass "com/example/offer/offer/model/TransferState" = some m.cls := findClass_of_methodNamed Bd.named
  have hnm := (name_of_methodNamed Bd.named Bd.method).1
  have X0 : Stand p l e R_1_4_32_13 s m #[(.ref a_TERMINATED), (.ref a_COMPLETED), (.ref a_CONSUMER)] below meth c s₁ [] 0 0 := Stand.of_body Bd
  have e0 : s₁.heap = h0 := by rw [← hh, Bd.state]; rfl
  have N0 := Fr.nil n0
  obtain ⟨ax175, T1, h1, kz1, X1, e1, E1, hS1, hk1, hZ1, hown1, st1⟩ := ldcS (s := s) (vm0 := s.vm) X0 hx hZ hown (tw_32 hw) (own_strs hw) e0 ((State.WarmedH.refl s).since 0) (Nat.zero_le _) (g := (mkF m 1 #[.val (.ref a_TERMINATED), .val (.ref a_COMPLETED), .val (.ref a_CONSUMER)] [(.ref a_COMPLETED)])) rfl (hb hby d2_1) (n := 16) (by decide) (by decide) (by decide) (by decide)
  have KK1 : Keep h0 h1 [] := (Keep.refl h0 []).ext E1
  -- pc 3: java/util/Objects.requireNonNull
  obtain ⟨_, _, ⟨T2, L2, k2, n2⟩, -, X2, ⟨Lc2, hQ2, l2, y2, z2⟩, st2⟩ := Jvm.LawKit.callS X1 hx (y := M_1) hown1 (mvT hZ1 (tw_40 hw)) (mvT hZ1 (tw_41 hw)) (mvT hZ1 (tw_42 hw)) (mvT hZ1 (tw_43 hw)) (by decide) (backOf (W := 0) (rm3_101 l Z a0 hw [] a_COMPLETED ax175 h1 n0 (Nat.le_trans Z0 KK1.1) ) hZ1 (tw_43 hw) (tw_42 hw) (by decide) (by decide)) (g := (mkF m 3 #[.val (.ref a_TERMINATED), .val (.ref a_COMPLETED), .val (.ref a_CONSUMER)] [(.ref ax175), (.ref a_COMPLETED)])) rfl (by rw [hml]; rfl) (argsL := [(.ref a_COMPLETED), (.ref ax175)]) (rest := []) (lenOf pd_1 rfl) rfl (by show 2 * 0 + _ ≤ _; exact Nat.le_of_eq rfl) (hb hby d2_3) (fun _ _ => ⟨rfl, e1, (by decide : 2 + 0 ≤ _), (by decide : 20 + 0 ≤ _)⟩)
  dsimp only [Pt.U, Pt.locs, Pt.cells, Pt.slots] at X2 l2 y2 z2 st2 hQ2
  subst l2 y2 z2
  obtain ⟨rfl, Nq2, e2⟩ := hQ2
  have N2 := Fr.app N0 Nq2
  obtain ⟨ax176, T3, h3, kz3, X3, e3, E3, hS3, hk3, hZ3, hown3, st3⟩ := ldcS (s := s) (vm0 := T1.vm) X2 hx hZ1 hown1 (tw_44 hw) (own_strs hw) e2 hS1 hk1 (g := (mkF m 8 #[.val (.ref a_TERMINATED), .val (.ref a_COMPLETED), .val (.ref a_CONSUMER)] [(.ref a_CONSUMER)])) rfl (hb hby d2_8) (n := 8) (by decide) (by decide) (by decide) (by decide)
  have KK3 : Keep h0 h3 [] := KK1.ext E3
  -- pc 10: java/util/Objects.requireNonNull
  obtain ⟨_, _, ⟨T4, L4, k4, n4⟩, -, X4, ⟨Lc4, hQ4, l4, y4, z4⟩, st4⟩ := Jvm.LawKit.callS X3 hx (y := M_1) hown3 (mvT hZ3 (tw_40 hw)) (mvT hZ3 (tw_41 hw)) (mvT hZ3 (tw_42 hw)) (mvT hZ3 (tw_43 hw)) (by decide) (backOf (W := 0) (rm3_53 l Z a0 hw [] a_CONSUMER ax176 h3 n0 (Nat.le_trans Z0 KK3.1) ) hZ3 (tw_43 hw) (tw_42 hw) (by decide) (by decide)) (g := (mkF m 10 #[.val (.ref a_TERMINATED), .val (.ref a_COMPLETED), .val (.ref a_CONSUMER)] [(.ref ax176), (.ref a_CONSUMER)])) rfl (by rw [hml]; rfl) (argsL := [(.ref a_CONSUMER), (.ref ax176)]) (rest := []) (lenOf pd_1 rfl) rfl (by show 2 * 0 + _ ≤ _; exact Nat.le_of_eq rfl) (hb hby d2_10) (fun _ _ => ⟨rfl, e3, (by decide : 4 + 0 ≤ _), (by decide : 32 + 0 ≤ _)⟩)
  dsimp only [Pt.U, Pt.locs, Pt.cells, Pt.slots] at X4 l4 y4 z4 st4 hQ4
  subst l4 y4 z4
  obtain ⟨rfl, Nq4, e4⟩ := hQ4
  have N4 := Fr.app N2 Nq4
  -- pc 15: java/lang/Enum.ordinal
  have u5 : F_0 Z h1 a_COMPLETED (.int 3) := Fld.ext E1 f1
  have u6 : F_0 Z h3 a_COMPLETED (.int 3) := Fld.ext E3 u5
  have u8 : E_0 Z h1 a_COMPLETED := Exa.ext E1 f2
  have u9 : E_0 Z h3 a_COMPLETED := Exa.ext E3 u8
  obtain ⟨cq7, kq7, q7a, q7b, q7c⟩ := isOf hZ3 e4 u9
  obtain ⟨_, _, ⟨T7, L7, k7, n7⟩, -, X7, ⟨Lc7, hQ7, l7, y7, z7⟩, st7⟩ := X4.virtualBackUp hx (x := M_3) (y := M_2) (owner := "java/lang/Enum") hown3 (mvT hZ3 (tw_45 hw)) (mvT hZ3 (tw_46 hw)) (mvT hZ3 (tw_47 hw)) (by decide) (mvT hZ3 (tw_49 hw)) (mvT hZ3 (tw_48 hw)) (backOf (W := 0) (rm4_103 l Z a0 hw [] a_COMPLETED h3 n0 (Nat.le_trans Z0 KK3.1) u6) hZ3 (tw_51 hw) (tw_50 hw) (by decide) (by decide)) q7a q7c (g := (mkF m 15 #[.val (.ref a_TERMINATED), .val (.ref a_COMPLETED), .val (.ref a_CONSUMER)] [(.ref a_COMPLETED)])) rfl (by rw [hml]; rfl) (Steps.refl _) (argsL := []) (rest := []) (lenOf pd_2 rfl) rfl (by show 2 * 0 + _ ≤ _; exact Nat.le_of_eq rfl) (hb hby d2_15) (fun _ _ => ⟨rfl, e4, (by decide : 4 + 0 ≤ _), (by decide : 32 + 0 ≤ _)⟩)
  dsimp only [Pt.U, Pt.locs, Pt.cells, Pt.slots] at X7 l7 y7 z7 st7 hQ7
  subst l7 y7 z7
  obtain ⟨rfl, Nq7, e7⟩ := hQ7
  have N7 := Fr.app N4 Nq7
  have u10 : S_1 Z h1 (.ref a_STARTED) := Sta.ext E1 f3
  have u11 : S_1 Z h3 (.ref a_STARTED) := Sta.ext E3 u10
  obtain ⟨T12, X12, e12, st12⟩ := getS2 X7 hx hZ3 hown3 (host := "") (Or.inl (tw_57 hw)) Via.refl e7 u11 (g := (mkF m 96 #[.val (.ref a_TERMINATED), .val (.ref a_COMPLETED), .val (.ref a_CONSUMER)] [(.ref a_TERMINATED)])) rfl (hb hby d2_96)
  obtain ⟨fs, hr, hrun, hended, hRE⟩ := X12.leaveW hS3 (by rw [e12]; exact hk3) (v := (some (.int 0))) (fun h => by rw [Bd.returns] at h; cases h)
  refine ⟨_, _, castTop (ef2_RRR m a_TERMINATED a_COMPLETED a_CONSUMER) ?_, hrun, hended, _, _, rfl, ?_, hRE.1, hRE.2.1, hRE.2.2.1, hRE.2.2.2.mono (by decide) (by decide)⟩
  · show Steps p.tables e below (s₁.setTop (mkF m 0 #[.val (.ref a_TERMINATED), .val (.ref a_COMPLETED), .val (.ref a_CONSUMER)] [])) _
    refine XS.aloadN X0.here hx rfl (hb hby d2_0) rfl rfl ?_
    show Steps p.tables e below (s₁.setTop (mkF m 1 #[.val (.ref a_TERMINATED), .val (.ref a_COMPLETED), .val (.ref a_CONSUMER)] [(.ref a_COMPLETED)])) _
    refine st1 _ ?_
    show Steps p.tables e below (T1.setTop (mkF m 3 #[.val (.ref a_TERMINATED), .val (.ref a_COMPLETED), .val (.ref a_CONSUMER)] [(.ref ax175), (.ref a_COMPLETED)])) _
    refine st2 _ ?_
    refine XS.pop X2.here hx rfl (hb hby d2_6) rfl rfl ?_
    refine XS.aloadN X2.here hx rfl (hb hby d2_7) rfl rfl ?_
    show Steps p.tables e below (T2.setTop (mkF m 8 #[.val (.ref a_TERMINATED), .val (.ref a_COMPLETED), .val (.ref a_CONSUMER)] [(.ref a_CONSUMER)])) _
    refine st3 _ ?_
    show Steps p.tables e below (T3.setTop (mkF m 10 #[.val (.ref a_TERMINATED), .val (.ref a_COMPLETED), .val (.ref a_CONSUMER)] [(.ref ax176), (.ref a_CONSUMER)])) _
    refine st4 _ ?_
    refine XS.pop X4.here hx rfl (hb hby d2_13) rfl rfl ?_
    refine XS.aloadN X4.here hx rfl (hb hby d2_14) rfl rfl ?_
    show Steps p.tables e below (T4.setTop (mkF m 15 #[.val (.ref a_TERMINATED), .val (.ref a_COMPLETED), .val (.ref a_CONSUMER)] [(.ref a_COMPLETED)])) _
    refine st7.trans ?_
    show Steps p.tables e below (T7.setTop (mkF m 18 #[.val (.ref a_TERMINATED), .val (.ref a_COMPLETED), .val (.ref a_CONSUMER)] [(.int 3)])) _
    refine XS.tswIn X7.here hx rfl (pc0 := 18) (pc' := 95) (o := 77) rfl (hb hby d2_18) rfl (by decide) (by decide) (by decide) (by decide) ?_
    refine XS.aloadN X7.here hx rfl (hb hby d2_95) rfl rfl ?_
    show Steps p.tables e below (T7.setTop (mkF m 96 #[.val (.ref a_TERMINATED), .val (.ref a_COMPLETED), .val (.ref a_CONSUMER)] [(.ref a_TERMINATED)])) _
    refine st12 _ ?_
    show Steps p.tables e below (T12.setTop (mkF m 99 #[.val (.ref a_TERMINATED), .val (.ref a_COMPLETED), .val (.ref a_CONSUMER)] [(.ref a_STARTED), (.ref a_TERMINATED)])) _
    refine Jvm.RoadKit.acmp (g := (mkF m 99 #[.val (.ref a_TERMINATED), .val (.ref a_COMPLETED), .val (.ref a_CONSUMER)] [(.ref a_STARTED), (.ref a_TERMINATED)])) X12 hx rfl rfl rfl (pc0 := 99) (pc' := 106) (same := false) rfl (hb hby d2_99) rfl (decide_eq_false fun q => f4 (Value.ref.inj q)) (by decide) (by decide) ?_
    refine XS.iconst X12.here hx rfl (hb hby d2_106) ?_
    refine XS.goto X12.here hx rfl (pc0 := 107) (pc' := 122) rfl (hb hby d2_107) (by decide) (by decide) ?_
    show Steps p.tables e below (T12.setTop (mkF m 122 #[.val (.ref a_TERMINATED), .val (.ref a_COMPLETED), .val (.ref a_CONSUMER)] [(.int 0)])) _
    exact retN X12 hx (t := .boolean) Bd.returns (by simp) (hb hby d2_122) hr
  · show Q2_178 Z  h0 n0 _ T12.heap _
    rw [e12]
    exact ⟨rfl, N7, KK3⟩
set_option maxRecDepth 65536 in
set_option maxHeartbeats 40000000 in
theorem rm0_179 (l : Launch) (Z : State) (a0 : Array Value) (hw : ∀ d ∈ tables_1, d.before a0 Z = true) (ws : List Jvm.Cond) (p0 : Int32) (p1 : Int32) (p2 : Int32) (a_REQUESTED : Addr) (a_STARTED : Addr) (a_SUSPENDED : Addr) (a_COMPLETED : Addr) (a_TERMINATED : Addr) (a_CONSUMER : Addr) (h0 : Heap) (n0 : Nat) (Z0 : n0 ≤ h0.size) (f1 : S_0 Z h0 (.ref a_REQUESTED)) (f2 : E_0 Z h0 a_REQUESTED) (f3 : S_1 Z h0 (.ref a_STARTED)) (f4 : E_0 Z h0 a_STARTED) (f5 : S_2 Z h0 (.ref a_SUSPENDED)) (f6 : E_0 Z h0 a_SUSPENDED) (f7 : S_3 Z h0 (.ref a_COMPLETED)) (f8 : E_0 Z h0 a_COMPLETED) (f9 : S_4 Z h0 (.ref a_TERMINATED)) (f10 : E_0 Z h0 a_TERMINATED) (f11 : ((p0 &&& (2147483647 : Int32)) % (5 : Int32)) = (4 : Int32)) (f12 : ((p1 &&& (2147483647 : Int32)) % (5 : Int32)) = (3 : Int32)) (f13 : (p2 &&& (1 : Int32)) = (0 : Int32)) (f14 : S_5 Z h0 (.ref a_CONSUMER)) (f15 : a_COMPLETED ≠ a_TERMINATED) (f16 : F_0 Z h0 a_COMPLETED (.int 3)) (f17 : a_TERMINATED ≠ a_STARTED) :
    MetFree l x (head1 (Jvm.Cond.code x code maxLocals ret :: ws) room_1) (fun a U => a = #[(.int p0), (.int p1), (.int p2)] ∧ Z.Warmed39 U.vm ∧ U.heap = h0) (fun _ _ _ _ _ => True) (fun _ U o U' => ∃ v L, o = .returned v ∧ QT n0 v U'.heap L ∧ ReturnedEndW U o U' L room_1.cells room_1.slots) := by
  refine MetFree.of_bodySF (plainFor_of_name pn_com_example_offer_offer_model_TransferStateIsFinalPinLaw) hisR ?_
  intro p e s m args below meth c s₁ Bd hml0 hP hK
  obtain ⟨rfl, hZ, hh⟩ := hP
  have hx := Bd.exec
  have hby := Bd.bytes
  have hml : c.maxLocals = 10 := hml0
  have hown : s.vm.findClass "com/example/offer/offer/model/TransferStateIsFinalPinLaw" = some m.cls := findClass_of_methodNamed Bd.named
  have hnm := (name_of_methodNamed Bd.named Bd.method).1
  have X0 : Stand p l e room_1 s m #[(.int p0), (.int p1), (.int p2)] below meth c s₁ [] 0 0 := Stand.of_body Bd
  have e0 : s₁.heap = h0 := by rw [← hh, Bd.state]; rfl
  have N0 := Fr.nil n0
  obtain ⟨T1, h1, L1, b173, kc174, X1, e1, N1, K1, le_b173, o1_0, o1_1, st1⟩ := sg0_25 p0 p1 p2 a_REQUESTED a_STARTED a_SUSPENDED a_COMPLETED a_TERMINATED X0 hx hZ hw hby hml hown e0 N0 Z0 f1 f2 f3 f4 f5 f6 f7 f8 f9 f10
  have sz_b173 : h0.size ≤ b173 := Nat.le_trans (Nat.le_refl _) le_b173
  have g_b173 : n0 ≤ b173 := Nat.le_trans Z0 sz_b173
  have KK1 : Keep h0 h1 [] := (Keep.refl h0 []).trans K1 (fun x hx => nomatch hx)
  have u2 : S_5 Z h1 (.ref a_CONSUMER) := own_sta_keep f14 K1 (fun _ q => nomatch q)
  obtain ⟨T3, X3, e3, st3⟩ := getS2 X1 hx hZ hown (host := "") (Or.inl (tw_15 hw)) Via.refl e1 u2 (g := (mkF m 63 #[.val (.int p0), .val (.int p1), .val (.int p2), .val (.ref b173), .val (.int 4), .val (.int 3), .unset, .unset, .unset, .unset] [])) rfl (hb hby at_63)
  have va4 := o1_0
  obtain ⟨cl4, Ar4, -, S4, -, H4, -⟩ := va4
  have hin4 : ¬ ((4 : Int32) < 0 ∨ cl4.slots.size ≤ ((4 : Int32)).toNatClampNeg) := inb_of S4 ⟨by decide, by decide⟩
  have hat4 : cl4.slots[((4 : Int32)).toNatClampNeg]? = some (.ref a_TERMINATED) := H4 _ (Nat.lt_of_not_le fun y => hin4 (Or.inr y))
  -- pc 76: com/example/offer/offer/model/TransferState.isFinal
  have u5 : S_3 Z h1 (.ref a_COMPLETED) := own_sta_keep f7 K1 (fun _ q => nomatch q)
  have u6 : S_4 Z h1 (.ref a_TERMINATED) := own_sta_keep f9 K1 (fun _ q => nomatch q)
  have u8 : E_0 Z h1 a_TERMINATED := Exa.keep f10 K1
  obtain ⟨cq7, kq7, q7a, q7b, q7c⟩ := isOf hZ e3 u8
  obtain ⟨_, _, ⟨T7, L7, k7, n7⟩, -, X7, ⟨Lc7, hQ7, l7, y7, z7⟩, st7⟩ := X3.virtualBack hx (y := M_0) (z := M_0) hown (mvT hZ (tw_18 hw)) (mvT hZ (tw_19 hw)) (notFace_of_selects (args := #[]) (mvT hZ (tw_21 hw))) (mvT hZ (tw_21 hw)) (mvT hZ (tw_20 hw)) (by decide) (backOf (W := 0) (rm1_132 l Z a0 hw [] a_TERMINATED a_COMPLETED h1 n0 (Nat.le_trans Z0 KK1.1) u5 f15 u6) hZ (tw_22 hw) (tw_3 hw) (by decide) (by decide)) q7a q7c (g := (mkF m 76 #[.val (.int p0), .val (.int p1), .val (.int p2), .val (.ref b173), .val (.int 4), .val (.int 3), .val (.ref a_CONSUMER), .val (.ref a_TERMINATED), .unset, .unset] [(.ref a_TERMINATED)])) rfl (by rw [hml]; rfl) (Steps.refl _) (argsL := []) (rest := []) (lenOf pd_0 rfl) rfl (by show 2 * 0 + _ ≤ _; exact Nat.le_of_eq rfl) (hb hby at_76) (fun _ _ => ⟨rfl, e3, (by decide : 1 + 0 ≤ _), (by decide : 5 + 0 ≤ _)⟩)
  dsimp only [Pt.U, Pt.locs, Pt.cells, Pt.slots] at X7 l7 y7 z7 st7 hQ7
  subst l7 y7 z7
  obtain ⟨rfl, Nq7, e7⟩ := hQ7
  have N7 := Fr.app N1 Nq7
  have va9 := o1_0
  obtain ⟨cl9, Ar9, -, S9, -, H9, -⟩ := va9
  have hin9 : ¬ ((3 : Int32) < 0 ∨ cl9.slots.size ≤ ((3 : Int32)).toNatClampNeg) := inb_of S9 ⟨by decide, by decide⟩
  have hat9 : cl9.slots[((3 : Int32)).toNatClampNeg]? = some (.ref a_COMPLETED) := H9 _ (Nat.lt_of_not_le fun y => hin9 (Or.inr y))
  -- pc 116: com/example/offer/offer/model/TransferState.canMoveTo
  have u10 : F_0 Z h1 a_COMPLETED (.int 3) := Fld.keep f16 K1 List.not_mem_nil
  have u11 : E_0 Z h1 a_COMPLETED := Exa.keep f8 K1
  have u12 : S_1 Z h1 (.ref a_STARTED) := own_sta_keep f3 K1 (fun _ q => nomatch q)
  obtain ⟨cq13, kq13, q13a, q13b, q13c⟩ := isOf hZ e7 u8
  obtain ⟨_, _, ⟨T13, L13, k13, n13⟩, -, X13, hS13, hg13, ⟨Lc13, hQ13, l13, y13, z13⟩, st13⟩ := X7.virtualBackS hx (y := M_4) (z := M_4) hown (mvT hZ (tw_27 hw)) (mvT hZ (tw_28 hw)) (notFace_of_selects (args := #[]) (mvT hZ (tw_30 hw))) (mvT hZ (tw_30 hw)) (mvT hZ (tw_29 hw)) (by decide) (backOfS (W := 0) (rm2_177 l Z a0 hw [] a_TERMINATED a_COMPLETED a_CONSUMER a_STARTED h1 n0 (Nat.le_trans Z0 KK1.1) u10 u11 u12 f17) hZ (tw_31 hw) (tw_3 hw) (by decide) (by decide)) q13a q13c (g := (mkF m 116 #[.val (.int p0), .val (.int p1), .val (.int p2), .val (.ref b173), .val (.int 4), .val (.int 3), .val (.ref a_CONSUMER), .val (.ref a_TERMINATED), .val (.int 1), .val (.int 1)] [(.ref a_CONSUMER), (.ref a_COMPLETED), (.ref a_TERMINATED)])) rfl (by rw [hml]; rfl) (Steps.refl _) (argsL := [(.ref a_COMPLETED), (.ref a_CONSUMER)]) (rest := []) (lenOf pd_3 rfl) rfl (by show 2 * 0 + _ ≤ _; exact Nat.le_of_eq rfl) (hb hby at_116) (fun _ _ => ⟨rfl, e7, (by decide : 1 + 4 ≤ _), (by decide : 5 + 32 ≤ _)⟩)
  dsimp only [Pt.U, Pt.locs, Pt.cells, Pt.slots] at X13 l13 y13 z13 st13 hQ13 hS13 hg13
  subst l13 y13 z13
  have hZ13 : Z.Warmed39 (s.setVm T13.vm).vm := State.Warmed39.trans hZ hS13.1
  have hown13 : (s.setVm T13.vm).vm.findClass "com/example/offer/offer/model/TransferStateIsFinalPinLaw" = some m.cls := by rw [show (s.setVm T13.vm).vm = T13.vm from rfl, hS13.1.alike.findClass]; exact hown
  obtain ⟨rfl, Nq13, K13⟩ := hQ13
  have N13 := Fr.app N7 Nq13
  have KK13 : Keep h0 T13.heap [] := KK1.trans K13 (fun x hx => nomatch hx)
  obtain ⟨fs, hr, hrun, hended, hRE⟩ := X13.leaveW hS13 (by exact (Nat.le_refl _)) (v := (some (.int 1))) (fun h => by rw [Bd.returns] at h; cases h)
  refine ⟨_, _, castTop (ef0_III m p0 p1 p2) ?_, hrun, hended, _, _, rfl, ?_, hRE.1, hRE.2.1, hRE.2.2.1, hRE.2.2.2.mono (by decide) (by decide)⟩
  · show Steps p.tables e below (s₁.setTop (mkF m 0 #[.val (.int p0), .val (.int p1), .val (.int p2), .unset, .unset, .unset, .unset, .unset, .unset, .unset] [])) _
    refine st1 _ ?_
    refine XS.iloadN X1.here hx rfl (hb hby at_35) rfl ?_
    show Steps p.tables e below (T1.setTop (mkF m 36 #[.val (.int p0), .val (.int p1), .val (.int p2), .val (.ref b173), .unset, .unset, .unset, .unset, .unset, .unset] [(.int p0)])) _
    refine X1.ldcInt hx hown (mvT hZ (tw_14 hw)) (g := (mkF m 36 #[.val (.int p0), .val (.int p1), .val (.int p2), .val (.ref b173), .unset, .unset, .unset, .unset, .unset, .unset] [(.int p0)])) rfl (hb hby at_36) _ ?_
    show Steps p.tables e below (T1.setTop (mkF m 38 #[.val (.int p0), .val (.int p1), .val (.int p2), .val (.ref b173), .unset, .unset, .unset, .unset, .unset, .unset] [(.int 2147483647), (.int p0)])) _
    refine XS.iand X1.here hx rfl (hb hby at_38) rfl ?_
    refine XS.iconst X1.here hx rfl (hb hby at_39) ?_
    show Steps p.tables e below (T1.setTop (mkF m 40 #[.val (.int p0), .val (.int p1), .val (.int p2), .val (.ref b173), .unset, .unset, .unset, .unset, .unset, .unset] [(.int 5), (.int (p0 &&& (2147483647 : Int32)))])) _
    refine iremM X1 hx rfl (hb hby at_40) rfl (by decide) ?_
    show Steps p.tables e below (T1.setTop (mkF m 41 #[.val (.int p0), .val (.int p1), .val (.int p2), .val (.ref b173), .unset, .unset, .unset, .unset, .unset, .unset] [(.int ((p0 &&& (2147483647 : Int32)) % (5 : Int32)))])) _
    rw [f11]
    refine XS.istore X1.here hx rfl (hb hby at_41) rfl (l' := #[.val (.int p0), .val (.int p1), .val (.int p2), .val (.ref b173), .val (.int 4), .unset, .unset, .unset, .unset, .unset]) rfl ?_
    refine XS.iloadN X1.here hx rfl (hb hby at_43) rfl ?_
    show Steps p.tables e below (T1.setTop (mkF m 44 #[.val (.int p0), .val (.int p1), .val (.int p2), .val (.ref b173), .val (.int 4), .unset, .unset, .unset, .unset, .unset] [(.int p1)])) _
    refine X1.ldcInt hx hown (mvT hZ (tw_14 hw)) (g := (mkF m 44 #[.val (.int p0), .val (.int p1), .val (.int p2), .val (.ref b173), .val (.int 4), .unset, .unset, .unset, .unset, .unset] [(.int p1)])) rfl (hb hby at_44) _ ?_
    show Steps p.tables e below (T1.setTop (mkF m 46 #[.val (.int p0), .val (.int p1), .val (.int p2), .val (.ref b173), .val (.int 4), .unset, .unset, .unset, .unset, .unset] [(.int 2147483647), (.int p1)])) _
    refine XS.iand X1.here hx rfl (hb hby at_46) rfl ?_
    refine XS.iconst X1.here hx rfl (hb hby at_47) ?_
    show Steps p.tables e below (T1.setTop (mkF m 48 #[.val (.int p0), .val (.int p1), .val (.int p2), .val (.ref b173), .val (.int 4), .unset, .unset, .unset, .unset, .unset] [(.int 5), (.int (p1 &&& (2147483647 : Int32)))])) _
    refine iremM X1 hx rfl (hb hby at_48) rfl (by decide) ?_
    show Steps p.tables e below (T1.setTop (mkF m 49 #[.val (.int p0), .val (.int p1), .val (.int p2), .val (.ref b173), .val (.int 4), .unset, .unset, .unset, .unset, .unset] [(.int ((p1 &&& (2147483647 : Int32)) % (5 : Int32)))])) _
    rw [f12]
    refine XS.istore X1.here hx rfl (hb hby at_49) rfl (l' := #[.val (.int p0), .val (.int p1), .val (.int p2), .val (.ref b173), .val (.int 4), .val (.int 3), .unset, .unset, .unset, .unset]) rfl ?_
    refine XS.iloadN X1.here hx rfl (hb hby at_51) rfl ?_
    refine XS.iconst X1.here hx rfl (hb hby at_52) ?_
    show Steps p.tables e below (T1.setTop (mkF m 53 #[.val (.int p0), .val (.int p1), .val (.int p2), .val (.ref b173), .val (.int 4), .val (.int 3), .unset, .unset, .unset, .unset] [(.int 1), (.int p2)])) _
    refine XS.iand X1.here hx rfl (hb hby at_53) rfl ?_
    refine XS.ifYes X1.here hx rfl (pc0 := 54) (pc' := 63) rfl (hb hby at_54) rfl ((if0 _ _).trans (teq (f13 : (p2 &&& (1 : Int32)) = (0 : Int32))).1) (by decide) (by decide) ?_
    show Steps p.tables e below (T1.setTop (mkF m 63 #[.val (.int p0), .val (.int p1), .val (.int p2), .val (.ref b173), .val (.int 4), .val (.int 3), .unset, .unset, .unset, .unset] [])) _
    refine st3 _ ?_
    refine XS.astore X3.here hx rfl (hb hby at_66) rfl rfl (l' := #[.val (.int p0), .val (.int p1), .val (.int p2), .val (.ref b173), .val (.int 4), .val (.int 3), .val (.ref a_CONSUMER), .unset, .unset, .unset]) rfl ?_
    refine XS.aloadN X3.here hx rfl (hb hby at_68) rfl rfl ?_
    refine XS.iload X3.here hx rfl (hb hby at_69) rfl ?_
    show Steps p.tables e below (T3.setTop (mkF m 71 #[.val (.int p0), .val (.int p1), .val (.int p2), .val (.ref b173), .val (.int 4), .val (.int 3), .val (.ref a_CONSUMER), .unset, .unset, .unset] [(.int 4), (.ref b173)])) _
    refine X3.aaload hx (j := (4 : Int32)) (v := (.ref a_TERMINATED)) (by rw [e3]; exact Ar4.1) (State.isArrayOf_alike hZ.alike Ar4.2.1) rfl Ar4.2.2 hin4 hat4 (g := (mkF m 71 #[.val (.int p0), .val (.int p1), .val (.int p2), .val (.ref b173), .val (.int 4), .val (.int 3), .val (.ref a_CONSUMER), .unset, .unset, .unset] [(.int 4), (.ref b173)])) rfl rfl (hb hby at_71) _ ?_
    refine XS.astore X3.here hx rfl (hb hby at_72) rfl rfl (l' := #[.val (.int p0), .val (.int p1), .val (.int p2), .val (.ref b173), .val (.int 4), .val (.int 3), .val (.ref a_CONSUMER), .val (.ref a_TERMINATED), .unset, .unset]) rfl ?_
    refine XS.aload X3.here hx rfl (hb hby at_74) rfl rfl ?_
    show Steps p.tables e below (T3.setTop (mkF m 76 #[.val (.int p0), .val (.int p1), .val (.int p2), .val (.ref b173), .val (.int 4), .val (.int 3), .val (.ref a_CONSUMER), .val (.ref a_TERMINATED), .unset, .unset] [(.ref a_TERMINATED)])) _
    refine st7.trans ?_
    refine XS.istore X7.here hx rfl (hb hby at_79) rfl (l' := #[.val (.int p0), .val (.int p1), .val (.int p2), .val (.ref b173), .val (.int 4), .val (.int 3), .val (.ref a_CONSUMER), .val (.ref a_TERMINATED), .val (.int 1), .unset]) rfl ?_
    refine XS.iload X7.here hx rfl (hb hby at_81) rfl ?_
    refine XS.iconst X7.here hx rfl (hb hby at_83) ?_
    refine XS.icmpNo X7.here hx rfl (hb hby at_84) rfl (by decide) ?_
    show Steps p.tables e below (T7.setTop (mkF m 87 #[.val (.int p0), .val (.int p1), .val (.int p2), .val (.ref b173), .val (.int 4), .val (.int 3), .val (.ref a_CONSUMER), .val (.ref a_TERMINATED), .val (.int 1), .unset] [])) _
    refine XS.iconst X7.here hx rfl (hb hby at_87) ?_
    refine XS.goto X7.here hx rfl (pc0 := 88) (pc' := 92) rfl (hb hby at_88) (by decide) (by decide) ?_
    refine XS.istore X7.here hx rfl (hb hby at_92) rfl (l' := #[.val (.int p0), .val (.int p1), .val (.int p2), .val (.ref b173), .val (.int 4), .val (.int 3), .val (.ref a_CONSUMER), .val (.ref a_TERMINATED), .val (.int 1), .val (.int 1)]) rfl ?_
    refine XS.iload X7.here hx rfl (hb hby at_94) rfl ?_
    refine XS.iload X7.here hx rfl (hb hby at_96) rfl ?_
    show Steps p.tables e below (T7.setTop (mkF m 98 #[.val (.int p0), .val (.int p1), .val (.int p2), .val (.ref b173), .val (.int 4), .val (.int 3), .val (.ref a_CONSUMER), .val (.ref a_TERMINATED), .val (.int 1), .val (.int 1)] [(.int 1), (.int 1)])) _
    refine XS.icmpYes X7.here hx rfl (pc0 := 98) (pc' := 103) rfl (hb hby at_98) rfl (by decide) (by decide) (by decide) ?_
    refine XS.iload X7.here hx rfl (hb hby at_103) rfl ?_
    refine XS.ifNo X7.here hx rfl (hb hby at_105) rfl (by decide) ?_
    refine XS.aload X7.here hx rfl (hb hby at_108) rfl rfl ?_
    refine XS.aloadN X7.here hx rfl (hb hby at_110) rfl rfl ?_
    show Steps p.tables e below (T7.setTop (mkF m 111 #[.val (.int p0), .val (.int p1), .val (.int p2), .val (.ref b173), .val (.int 4), .val (.int 3), .val (.ref a_CONSUMER), .val (.ref a_TERMINATED), .val (.int 1), .val (.int 1)] [(.ref b173), (.ref a_TERMINATED)])) _
    refine XS.iload X7.here hx rfl (hb hby at_111) rfl ?_
    show Steps p.tables e below (T7.setTop (mkF m 113 #[.val (.int p0), .val (.int p1), .val (.int p2), .val (.ref b173), .val (.int 4), .val (.int 3), .val (.ref a_CONSUMER), .val (.ref a_TERMINATED), .val (.int 1), .val (.int 1)] [(.int 3), (.ref b173), (.ref a_TERMINATED)])) _
    refine X7.aaload hx (j := (3 : Int32)) (v := (.ref a_COMPLETED)) (by rw [e7]; exact Ar9.1) (State.isArrayOf_alike hZ.alike Ar9.2.1) rfl Ar9.2.2 hin9 hat9 (g := (mkF m 113 #[.val (.int p0), .val (.int p1), .val (.int p2), .val (.ref b173), .val (.int 4), .val (.int 3), .val (.ref a_CONSUMER), .val (.ref a_TERMINATED), .val (.int 1), .val (.int 1)] [(.int 3), (.ref b173), (.ref a_TERMINATED)])) rfl rfl (hb hby at_113) _ ?_
    refine XS.aload X7.here hx rfl (hb hby at_114) rfl rfl ?_
    show Steps p.tables e below (T7.setTop (mkF m 116 #[.val (.int p0), .val (.int p1), .val (.int p2), .val (.ref b173), .val (.int 4), .val (.int 3), .val (.ref a_CONSUMER), .val (.ref a_TERMINATED), .val (.int 1), .val (.int 1)] [(.ref a_CONSUMER), (.ref a_COMPLETED), (.ref a_TERMINATED)])) _
    refine st13.trans ?_
    refine XS.ifYes X13.here hx rfl (pc0 := 119) (pc' := 124) rfl (hb hby at_119) rfl (by decide) (by decide) (by decide) ?_
    refine XS.iconst X13.here hx rfl (hb hby at_124) ?_
    show Steps p.tables e below (T13.setTop (mkF m 125 #[.val (.int p0), .val (.int p1), .val (.int p2), .val (.ref b173), .val (.int 4), .val (.int 3), .val (.ref a_CONSUMER), .val (.ref a_TERMINATED), .val (.int 1), .val (.int 1)] [(.int 1)])) _
    exact retN X13 hx (t := .boolean) Bd.returns (by simp) (hb hby at_125) hr
  · show QT n0 _ T13.heap _
    exact ⟨rfl, N13⟩
def Q2_185 (Z : State)  (h0 : Heap) (n0 : Nat) (v : Option Value) (h : Heap) (L : List Loc) : Prop := v = (some (.int 0)) ∧ Fr n0 L ∧ Keep h0 h []
set_option maxRecDepth 65536 in
set_option maxHeartbeats 40000000 in
theorem rm2_184 (l : Launch) (Z : State) (a0 : Array Value) (hw : ∀ d ∈ tables_1, d.before a0 Z = true) (ws : List Jvm.Cond) (a_TERMINATED : Addr) (a_COMPLETED : Addr) (a_PROVIDER : Addr) (a_STARTED : Addr) (h0 : Heap) (n0 : Nat) (Z0 : n0 ≤ h0.size) (f1 : F_0 Z h0 a_COMPLETED (.int 3)) (f2 : E_0 Z h0 a_COMPLETED) (f3 : S_1 Z h0 (.ref a_STARTED)) (f4 : a_TERMINATED ≠ a_STARTED) :
    MetFree l M_4 (head1 (Jvm.Cond.code M_4 prog_6_method_5_code 3 (some .boolean) :: ws) R_1_4_32_13) (fun a U => a = #[(.ref a_TERMINATED), (.ref a_COMPLETED), (.ref a_PROVIDER)] ∧ Z.Warmed39 U.vm ∧ U.heap = h0) (fun _ _ _ _ _ => True) (fun _ U o U' => ∃ v L, o = .returned v ∧ Q2_185 Z  h0 n0 v U'.heap L ∧ ReturnedEndW U o U' L R_1_4_32_13.cells R_1_4_32_13.slots) := by
  refine MetFree.of_bodySF (plainFor_of_name pn_com_example_offer_offer_model_TransferState) hisR ?_
  intro p e s m args below meth c s₁ Bd hml0 hP hK
  obtain ⟨rfl, hZ, hh⟩ := hP
  have hx := Bd.exec
  have hby := Bd.bytes
  have hml : c.maxLocals = 3 := hml0
  have hown : s.vm.findClass "com/example/offer/offer/model/TransferState" = some m.cls := findClass_of_methodNamed Bd.named
  have hnm := (name_of_methodNamed Bd.named Bd.method).1
  have X0 : Stand p l e R_1_4_32_13 s m #[(.ref a_TERMINATED), (.ref a_COMPLETED), (.ref a_PROVIDER)] below meth c s₁ [] 0 0 := Stand.of_body Bd
  have e0 : s₁.heap = h0 := by rw [← hh, Bd.state]; rfl
  have N0 := Fr.nil n0
  obtain ⟨ax182, T1, h1, kz1, X1, e1, E1, hS1, hk1, hZ1, hown1, st1⟩ := ldcS (s := s) (vm0 := s.vm) X0 hx hZ hown (tw_32 hw) (own_strs hw) e0 ((State.WarmedH.refl s).since 0) (Nat.zero_le _) (g := (mkF m 1 #[.val (.ref a_TERMINATED), .val (.ref a_COMPLETED), .val (.ref a_PROVIDER)] [(.ref a_COMPLETED)])) rfl (hb hby d2_1) (n := 16) (by decide) (by decide) (by decide) (by decide)
  have KK1 : Keep h0 h1 [] := (Keep.refl h0 []).ext E1
  -- pc 3: java/util/Objects.requireNonNull
  obtain ⟨_, _, ⟨T2, L2, k2, n2⟩, -, X2, ⟨Lc2, hQ2, l2, y2, z2⟩, st2⟩ := Jvm.LawKit.callS X1 hx (y := M_1) hown1 (mvT hZ1 (tw_40 hw)) (mvT hZ1 (tw_41 hw)) (mvT hZ1 (tw_42 hw)) (mvT hZ1 (tw_43 hw)) (by decide) (backOf (W := 0) (rm3_101 l Z a0 hw [] a_COMPLETED ax182 h1 n0 (Nat.le_trans Z0 KK1.1) ) hZ1 (tw_43 hw) (tw_42 hw) (by decide) (by decide)) (g := (mkF m 3 #[.val (.ref a_TERMINATED), .val (.ref a_COMPLETED), .val (.ref a_PROVIDER)] [(.ref ax182), (.ref a_COMPLETED)])) rfl (by rw [hml]; rfl) (argsL := [(.ref a_COMPLETED), (.ref ax182)]) (rest := []) (lenOf pd_1 rfl) rfl (by show 2 * 0 + _ ≤ _; exact Nat.le_of_eq rfl) (hb hby d2_3) (fun _ _ => ⟨rfl, e1, (by decide : 2 + 0 ≤ _), (by decide : 20 + 0 ≤ _)⟩)
  dsimp only [Pt.U, Pt.locs, Pt.cells, Pt.slots] at X2 l2 y2 z2 st2 hQ2
  subst l2 y2 z2
  obtain ⟨rfl, Nq2, e2⟩ := hQ2
  have N2 := Fr.app N0 Nq2
  obtain ⟨ax183, T3, h3, kz3, X3, e3, E3, hS3, hk3, hZ3, hown3, st3⟩ := ldcS (s := s) (vm0 := T1.vm) X2 hx hZ1 hown1 (tw_44 hw) (own_strs hw) e2 hS1 hk1 (g := (mkF m 8 #[.val (.ref a_TERMINATED), .val (.ref a_COMPLETED), .val (.ref a_PROVIDER)] [(.ref a_PROVIDER)])) rfl (hb hby d2_8) (n := 8) (by decide) (by decide) (by decide) (by decide)
  have KK3 : Keep h0 h3 [] := KK1.ext E3
  -- pc 10: java/util/Objects.requireNonNull
  obtain ⟨_, _, ⟨T4, L4, k4, n4⟩, -, X4, ⟨Lc4, hQ4, l4, y4, z4⟩, st4⟩ := Jvm.LawKit.callS X3 hx (y := M_1) hown3 (mvT hZ3 (tw_40 hw)) (mvT hZ3 (tw_41 hw)) (mvT hZ3 (tw_42 hw)) (mvT hZ3 (tw_43 hw)) (by decide) (backOf (W := 0) (rm3_62 l Z a0 hw [] a_PROVIDER ax183 h3 n0 (Nat.le_trans Z0 KK3.1) ) hZ3 (tw_43 hw) (tw_42 hw) (by decide) (by decide)) (g := (mkF m 10 #[.val (.ref a_TERMINATED), .val (.ref a_COMPLETED), .val (.ref a_PROVIDER)] [(.ref ax183), (.ref a_PROVIDER)])) rfl (by rw [hml]; rfl) (argsL := [(.ref a_PROVIDER), (.ref ax183)]) (rest := []) (lenOf pd_1 rfl) rfl (by show 2 * 0 + _ ≤ _; exact Nat.le_of_eq rfl) (hb hby d2_10) (fun _ _ => ⟨rfl, e3, (by decide : 4 + 0 ≤ _), (by decide : 32 + 0 ≤ _)⟩)
  dsimp only [Pt.U, Pt.locs, Pt.cells, Pt.slots] at X4 l4 y4 z4 st4 hQ4
  subst l4 y4 z4
  obtain ⟨rfl, Nq4, e4⟩ := hQ4
  have N4 := Fr.app N2 Nq4
  -- pc 15: java/lang/Enum.ordinal
  have u5 : F_0 Z h1 a_COMPLETED (.int 3) := Fld.ext E1 f1
  have u6 : F_0 Z h3 a_COMPLETED (.int 3) := Fld.ext E3 u5
  have u8 : E_0 Z h1 a_COMPLETED := Exa.ext E1 f2
  have u9 : E_0 Z h3 a_COMPLETED := Exa.ext E3 u8
  obtain ⟨cq7, kq7, q7a, q7b, q7c⟩ := isOf hZ3 e4 u9
  obtain ⟨_, _, ⟨T7, L7, k7, n7⟩, -, X7, ⟨Lc7, hQ7, l7, y7, z7⟩, st7⟩ := X4.virtualBackUp hx (x := M_3) (y := M_2) (owner := "java/lang/Enum") hown3 (mvT hZ3 (tw_45 hw)) (mvT hZ3 (tw_46 hw)) (mvT hZ3 (tw_47 hw)) (by decide) (mvT hZ3 (tw_49 hw)) (mvT hZ3 (tw_48 hw)) (backOf (W := 0) (rm4_103 l Z a0 hw [] a_COMPLETED h3 n0 (Nat.le_trans Z0 KK3.1) u6) hZ3 (tw_51 hw) (tw_50 hw) (by decide) (by decide)) q7a q7c (g := (mkF m 15 #[.val (.ref a_TERMINATED), .val (.ref a_COMPLETED), .val (.ref a_PROVIDER)] [(.ref a_COMPLETED)])) rfl (by rw [hml]; rfl) (Steps.refl _) (argsL := []) (rest := []) (lenOf pd_2 rfl) rfl (by show 2 * 0 + _ ≤ _; exact Nat.le_of_eq rfl) (hb hby d2_15) (fun _ _ => ⟨rfl, e4, (by decide : 4 + 0 ≤ _), (by decide : 32 + 0 ≤ _)⟩)
  dsimp only [Pt.U, Pt.locs, Pt.cells, Pt.slots] at X7 l7 y7 z7 st7 hQ7
  subst l7 y7 z7
  obtain ⟨rfl, Nq7, e7⟩ := hQ7
  have N7 := Fr.app N4 Nq7
  have u10 : S_1 Z h1 (.ref a_STARTED) := Sta.ext E1 f3
  have u11 : S_1 Z h3 (.ref a_STARTED) := Sta.ext E3 u10
  obtain ⟨T12, X12, e12, st12⟩ := getS2 X7 hx hZ3 hown3 (host := "") (Or.inl (tw_57 hw)) Via.refl e7 u11 (g := (mkF m 96 #[.val (.ref a_TERMINATED), .val (.ref a_COMPLETED), .val (.ref a_PROVIDER)] [(.ref a_TERMINATED)])) rfl (hb hby d2_96)
  obtain ⟨fs, hr, hrun, hended, hRE⟩ := X12.leaveW hS3 (by rw [e12]; exact hk3) (v := (some (.int 0))) (fun h => by rw [Bd.returns] at h; cases h)
  refine ⟨_, _, castTop (ef2_RRR m a_TERMINATED a_COMPLETED a_PROVIDER) ?_, hrun, hended, _, _, rfl, ?_, hRE.1, hRE.2.1, hRE.2.2.1, hRE.2.2.2.mono (by decide) (by decide)⟩
  · show Steps p.tables e below (s₁.setTop (mkF m 0 #[.val (.ref a_TERMINATED), .val (.ref a_COMPLETED), .val (.ref a_PROVIDER)] [])) _
    refine XS.aloadN X0.here hx rfl (hb hby d2_0) rfl rfl ?_
    show Steps p.tables e below (s₁.setTop (mkF m 1 #[.val (.ref a_TERMINATED), .val (.ref a_COMPLETED), .val (.ref a_PROVIDER)] [(.ref a_COMPLETED)])) _
    refine st1 _ ?_
    show Steps p.tables e below (T1.setTop (mkF m 3 #[.val (.ref a_TERMINATED), .val (.ref a_COMPLETED), .val (.ref a_PROVIDER)] [(.ref ax182), (.ref a_COMPLETED)])) _
    refine st2 _ ?_
    refine XS.pop X2.here hx rfl (hb hby d2_6) rfl rfl ?_
    refine XS.aloadN X2.here hx rfl (hb hby d2_7) rfl rfl ?_
    show Steps p.tables e below (T2.setTop (mkF m 8 #[.val (.ref a_TERMINATED), .val (.ref a_COMPLETED), .val (.ref a_PROVIDER)] [(.ref a_PROVIDER)])) _
    refine st3 _ ?_
    show Steps p.tables e below (T3.setTop (mkF m 10 #[.val (.ref a_TERMINATED), .val (.ref a_COMPLETED), .val (.ref a_PROVIDER)] [(.ref ax183), (.ref a_PROVIDER)])) _
    refine st4 _ ?_
    refine XS.pop X4.here hx rfl (hb hby d2_13) rfl rfl ?_
    refine XS.aloadN X4.here hx rfl (hb hby d2_14) rfl rfl ?_
    show Steps p.tables e below (T4.setTop (mkF m 15 #[.val (.ref a_TERMINATED), .val (.ref a_COMPLETED), .val (.ref a_PROVIDER)] [(.ref a_COMPLETED)])) _
    refine st7.trans ?_
    show Steps p.tables e below (T7.setTop (mkF m 18 #[.val (.ref a_TERMINATED), .val (.ref a_COMPLETED), .val (.ref a_PROVIDER)] [(.int 3)])) _
    refine XS.tswIn X7.here hx rfl (pc0 := 18) (pc' := 95) (o := 77) rfl (hb hby d2_18) rfl (by decide) (by decide) (by decide) (by decide) ?_
    refine XS.aloadN X7.here hx rfl (hb hby d2_95) rfl rfl ?_
    show Steps p.tables e below (T7.setTop (mkF m 96 #[.val (.ref a_TERMINATED), .val (.ref a_COMPLETED), .val (.ref a_PROVIDER)] [(.ref a_TERMINATED)])) _
    refine st12 _ ?_
    show Steps p.tables e below (T12.setTop (mkF m 99 #[.val (.ref a_TERMINATED), .val (.ref a_COMPLETED), .val (.ref a_PROVIDER)] [(.ref a_STARTED), (.ref a_TERMINATED)])) _
    refine Jvm.RoadKit.acmp (g := (mkF m 99 #[.val (.ref a_TERMINATED), .val (.ref a_COMPLETED), .val (.ref a_PROVIDER)] [(.ref a_STARTED), (.ref a_TERMINATED)])) X12 hx rfl rfl rfl (pc0 := 99) (pc' := 106) (same := false) rfl (hb hby d2_99) rfl (decide_eq_false fun q => f4 (Value.ref.inj q)) (by decide) (by decide) ?_
    refine XS.iconst X12.here hx rfl (hb hby d2_106) ?_
    refine XS.goto X12.here hx rfl (pc0 := 107) (pc' := 122) rfl (hb hby d2_107) (by decide) (by decide) ?_
    show Steps p.tables e below (T12.setTop (mkF m 122 #[.val (.ref a_TERMINATED), .val (.ref a_COMPLETED), .val (.ref a_PROVIDER)] [(.int 0)])) _
    exact retN X12 hx (t := .boolean) Bd.returns (by simp) (hb hby d2_122) hr
  · show Q2_185 Z  h0 n0 _ T12.heap _
    rw [e12]
    exact ⟨rfl, N7, KK3⟩
set_option maxRecDepth 65536 in
set_option maxHeartbeats 40000000 in
theorem rm0_186 (l : Launch) (Z : State) (a0 : Array Value) (hw : ∀ d ∈ tables_1, d.before a0 Z = true) (ws : List Jvm.Cond) (p0 : Int32) (p1 : Int32) (p2 : Int32) (a_REQUESTED : Addr) (a_STARTED : Addr) (a_SUSPENDED : Addr) (a_COMPLETED : Addr) (a_TERMINATED : Addr) (a_PROVIDER : Addr) (h0 : Heap) (n0 : Nat) (Z0 : n0 ≤ h0.size) (f1 : S_0 Z h0 (.ref a_REQUESTED)) (f2 : E_0 Z h0 a_REQUESTED) (f3 : S_1 Z h0 (.ref a_STARTED)) (f4 : E_0 Z h0 a_STARTED) (f5 : S_2 Z h0 (.ref a_SUSPENDED)) (f6 : E_0 Z h0 a_SUSPENDED) (f7 : S_3 Z h0 (.ref a_COMPLETED)) (f8 : E_0 Z h0 a_COMPLETED) (f9 : S_4 Z h0 (.ref a_TERMINATED)) (f10 : E_0 Z h0 a_TERMINATED) (f11 : ((p0 &&& (2147483647 : Int32)) % (5 : Int32)) = (4 : Int32)) (f12 : ((p1 &&& (2147483647 : Int32)) % (5 : Int32)) = (3 : Int32)) (f13 : ¬ ((p2 &&& (1 : Int32)) = (0 : Int32))) (f14 : S_6 Z h0 (.ref a_PROVIDER)) (f15 : a_COMPLETED ≠ a_TERMINATED) (f16 : F_0 Z h0 a_COMPLETED (.int 3)) (f17 : a_TERMINATED ≠ a_STARTED) :
    MetFree l x (head1 (Jvm.Cond.code x code maxLocals ret :: ws) room_1) (fun a U => a = #[(.int p0), (.int p1), (.int p2)] ∧ Z.Warmed39 U.vm ∧ U.heap = h0) (fun _ _ _ _ _ => True) (fun _ U o U' => ∃ v L, o = .returned v ∧ QT n0 v U'.heap L ∧ ReturnedEndW U o U' L room_1.cells room_1.slots) := by
  refine MetFree.of_bodySF (plainFor_of_name pn_com_example_offer_offer_model_TransferStateIsFinalPinLaw) hisR ?_
  intro p e s m args below meth c s₁ Bd hml0 hP hK
  obtain ⟨rfl, hZ, hh⟩ := hP
  have hx := Bd.exec
  have hby := Bd.bytes
  have hml : c.maxLocals = 10 := hml0
  have hown : s.vm.findClass "com/example/offer/offer/model/TransferStateIsFinalPinLaw" = some m.cls := findClass_of_methodNamed Bd.named
  have hnm := (name_of_methodNamed Bd.named Bd.method).1
  have X0 : Stand p l e room_1 s m #[(.int p0), (.int p1), (.int p2)] below meth c s₁ [] 0 0 := Stand.of_body Bd
  have e0 : s₁.heap = h0 := by rw [← hh, Bd.state]; rfl
  have N0 := Fr.nil n0
  obtain ⟨T1, h1, L1, b180, kc181, X1, e1, N1, K1, le_b180, o1_0, o1_1, st1⟩ := sg0_25 p0 p1 p2 a_REQUESTED a_STARTED a_SUSPENDED a_COMPLETED a_TERMINATED X0 hx hZ hw hby hml hown e0 N0 Z0 f1 f2 f3 f4 f5 f6 f7 f8 f9 f10
  have sz_b180 : h0.size ≤ b180 := Nat.le_trans (Nat.le_refl _) le_b180
  have g_b180 : n0 ≤ b180 := Nat.le_trans Z0 sz_b180
  have KK1 : Keep h0 h1 [] := (Keep.refl h0 []).trans K1 (fun x hx => nomatch hx)
  have u2 : S_6 Z h1 (.ref a_PROVIDER) := own_sta_keep f14 K1 (fun _ q => nomatch q)
  obtain ⟨T3, X3, e3, st3⟩ := getS2 X1 hx hZ hown (host := "") (Or.inl (tw_25 hw)) Via.refl e1 u2 (g := (mkF m 57 #[.val (.int p0), .val (.int p1), .val (.int p2), .val (.ref b180), .val (.int 4), .val (.int 3), .unset, .unset, .unset, .unset] [])) rfl (hb hby at_57)
  have va4 := o1_0
  obtain ⟨cl4, Ar4, -, S4, -, H4, -⟩ := va4
  have hin4 : ¬ ((4 : Int32) < 0 ∨ cl4.slots.size ≤ ((4 : Int32)).toNatClampNeg) := inb_of S4 ⟨by decide, by decide⟩
  have hat4 : cl4.slots[((4 : Int32)).toNatClampNeg]? = some (.ref a_TERMINATED) := H4 _ (Nat.lt_of_not_le fun y => hin4 (Or.inr y))
  -- pc 76: com/example/offer/offer/model/TransferState.isFinal
  have u5 : S_3 Z h1 (.ref a_COMPLETED) := own_sta_keep f7 K1 (fun _ q => nomatch q)
  have u6 : S_4 Z h1 (.ref a_TERMINATED) := own_sta_keep f9 K1 (fun _ q => nomatch q)
  have u8 : E_0 Z h1 a_TERMINATED := Exa.keep f10 K1
  obtain ⟨cq7, kq7, q7a, q7b, q7c⟩ := isOf hZ e3 u8
  obtain ⟨_, _, ⟨T7, L7, k7, n7⟩, -, X7, ⟨Lc7, hQ7, l7, y7, z7⟩, st7⟩ := X3.virtualBack hx (y := M_0) (z := M_0) hown (mvT hZ (tw_18 hw)) (mvT hZ (tw_19 hw)) (notFace_of_selects (args := #[]) (mvT hZ (tw_21 hw))) (mvT hZ (tw_21 hw)) (mvT hZ (tw_20 hw)) (by decide) (backOf (W := 0) (rm1_132 l Z a0 hw [] a_TERMINATED a_COMPLETED h1 n0 (Nat.le_trans Z0 KK1.1) u5 f15 u6) hZ (tw_22 hw) (tw_3 hw) (by decide) (by decide)) q7a q7c (g := (mkF m 76 #[.val (.int p0), .val (.int p1), .val (.int p2), .val (.ref b180), .val (.int 4), .val (.int 3), .val (.ref a_PROVIDER), .val (.ref a_TERMINATED), .unset, .unset] [(.ref a_TERMINATED)])) rfl (by rw [hml]; rfl) (Steps.refl _) (argsL := []) (rest := []) (lenOf pd_0 rfl) rfl (by show 2 * 0 + _ ≤ _; exact Nat.le_of_eq rfl) (hb hby at_76) (fun _ _ => ⟨rfl, e3, (by decide : 1 + 0 ≤ _), (by decide : 5 + 0 ≤ _)⟩)
  dsimp only [Pt.U, Pt.locs, Pt.cells, Pt.slots] at X7 l7 y7 z7 st7 hQ7
  subst l7 y7 z7
  obtain ⟨rfl, Nq7, e7⟩ := hQ7
  have N7 := Fr.app N1 Nq7
  have va9 := o1_0
  obtain ⟨cl9, Ar9, -, S9, -, H9, -⟩ := va9
  have hin9 : ¬ ((3 : Int32) < 0 ∨ cl9.slots.size ≤ ((3 : Int32)).toNatClampNeg) := inb_of S9 ⟨by decide, by decide⟩
  have hat9 : cl9.slots[((3 : Int32)).toNatClampNeg]? = some (.ref a_COMPLETED) := H9 _ (Nat.lt_of_not_le fun y => hin9 (Or.inr y))
  -- pc 116: com/example/offer/offer/model/TransferState.canMoveTo
  have u10 : F_0 Z h1 a_COMPLETED (.int 3) := Fld.keep f16 K1 List.not_mem_nil
  have u11 : E_0 Z h1 a_COMPLETED := Exa.keep f8 K1
  have u12 : S_1 Z h1 (.ref a_STARTED) := own_sta_keep f3 K1 (fun _ q => nomatch q)
  obtain ⟨cq13, kq13, q13a, q13b, q13c⟩ := isOf hZ e7 u8
  obtain ⟨_, _, ⟨T13, L13, k13, n13⟩, -, X13, hS13, hg13, ⟨Lc13, hQ13, l13, y13, z13⟩, st13⟩ := X7.virtualBackS hx (y := M_4) (z := M_4) hown (mvT hZ (tw_27 hw)) (mvT hZ (tw_28 hw)) (notFace_of_selects (args := #[]) (mvT hZ (tw_30 hw))) (mvT hZ (tw_30 hw)) (mvT hZ (tw_29 hw)) (by decide) (backOfS (W := 0) (rm2_184 l Z a0 hw [] a_TERMINATED a_COMPLETED a_PROVIDER a_STARTED h1 n0 (Nat.le_trans Z0 KK1.1) u10 u11 u12 f17) hZ (tw_31 hw) (tw_3 hw) (by decide) (by decide)) q13a q13c (g := (mkF m 116 #[.val (.int p0), .val (.int p1), .val (.int p2), .val (.ref b180), .val (.int 4), .val (.int 3), .val (.ref a_PROVIDER), .val (.ref a_TERMINATED), .val (.int 1), .val (.int 1)] [(.ref a_PROVIDER), (.ref a_COMPLETED), (.ref a_TERMINATED)])) rfl (by rw [hml]; rfl) (Steps.refl _) (argsL := [(.ref a_COMPLETED), (.ref a_PROVIDER)]) (rest := []) (lenOf pd_3 rfl) rfl (by show 2 * 0 + _ ≤ _; exact Nat.le_of_eq rfl) (hb hby at_116) (fun _ _ => ⟨rfl, e7, (by decide : 1 + 4 ≤ _), (by decide : 5 + 32 ≤ _)⟩)
  dsimp only [Pt.U, Pt.locs, Pt.cells, Pt.slots] at X13 l13 y13 z13 st13 hQ13 hS13 hg13
  subst l13 y13 z13
  have hZ13 : Z.Warmed39 (s.setVm T13.vm).vm := State.Warmed39.trans hZ hS13.1
  have hown13 : (s.setVm T13.vm).vm.findClass "com/example/offer/offer/model/TransferStateIsFinalPinLaw" = some m.cls := by rw [show (s.setVm T13.vm).vm = T13.vm from rfl, hS13.1.alike.findClass]; exact hown
  obtain ⟨rfl, Nq13, K13⟩ := hQ13
  have N13 := Fr.app N7 Nq13
  have KK13 : Keep h0 T13.heap [] := KK1.trans K13 (fun x hx => nomatch hx)
  obtain ⟨fs, hr, hrun, hended, hRE⟩ := X13.leaveW hS13 (by exact (Nat.le_refl _)) (v := (some (.int 1))) (fun h => by rw [Bd.returns] at h; cases h)
  refine ⟨_, _, castTop (ef0_III m p0 p1 p2) ?_, hrun, hended, _, _, rfl, ?_, hRE.1, hRE.2.1, hRE.2.2.1, hRE.2.2.2.mono (by decide) (by decide)⟩
  · show Steps p.tables e below (s₁.setTop (mkF m 0 #[.val (.int p0), .val (.int p1), .val (.int p2), .unset, .unset, .unset, .unset, .unset, .unset, .unset] [])) _
    refine st1 _ ?_
    refine XS.iloadN X1.here hx rfl (hb hby at_35) rfl ?_
    show Steps p.tables e below (T1.setTop (mkF m 36 #[.val (.int p0), .val (.int p1), .val (.int p2), .val (.ref b180), .unset, .unset, .unset, .unset, .unset, .unset] [(.int p0)])) _
    refine X1.ldcInt hx hown (mvT hZ (tw_14 hw)) (g := (mkF m 36 #[.val (.int p0), .val (.int p1), .val (.int p2), .val (.ref b180), .unset, .unset, .unset, .unset, .unset, .unset] [(.int p0)])) rfl (hb hby at_36) _ ?_
    show Steps p.tables e below (T1.setTop (mkF m 38 #[.val (.int p0), .val (.int p1), .val (.int p2), .val (.ref b180), .unset, .unset, .unset, .unset, .unset, .unset] [(.int 2147483647), (.int p0)])) _
    refine XS.iand X1.here hx rfl (hb hby at_38) rfl ?_
    refine XS.iconst X1.here hx rfl (hb hby at_39) ?_
    show Steps p.tables e below (T1.setTop (mkF m 40 #[.val (.int p0), .val (.int p1), .val (.int p2), .val (.ref b180), .unset, .unset, .unset, .unset, .unset, .unset] [(.int 5), (.int (p0 &&& (2147483647 : Int32)))])) _
    refine iremM X1 hx rfl (hb hby at_40) rfl (by decide) ?_
    show Steps p.tables e below (T1.setTop (mkF m 41 #[.val (.int p0), .val (.int p1), .val (.int p2), .val (.ref b180), .unset, .unset, .unset, .unset, .unset, .unset] [(.int ((p0 &&& (2147483647 : Int32)) % (5 : Int32)))])) _
    rw [f11]
    refine XS.istore X1.here hx rfl (hb hby at_41) rfl (l' := #[.val (.int p0), .val (.int p1), .val (.int p2), .val (.ref b180), .val (.int 4), .unset, .unset, .unset, .unset, .unset]) rfl ?_
    refine XS.iloadN X1.here hx rfl (hb hby at_43) rfl ?_
    show Steps p.tables e below (T1.setTop (mkF m 44 #[.val (.int p0), .val (.int p1), .val (.int p2), .val (.ref b180), .val (.int 4), .unset, .unset, .unset, .unset, .unset] [(.int p1)])) _
    refine X1.ldcInt hx hown (mvT hZ (tw_14 hw)) (g := (mkF m 44 #[.val (.int p0), .val (.int p1), .val (.int p2), .val (.ref b180), .val (.int 4), .unset, .unset, .unset, .unset, .unset] [(.int p1)])) rfl (hb hby at_44) _ ?_
    show Steps p.tables e below (T1.setTop (mkF m 46 #[.val (.int p0), .val (.int p1), .val (.int p2), .val (.ref b180), .val (.int 4), .unset, .unset, .unset, .unset, .unset] [(.int 2147483647), (.int p1)])) _
    refine XS.iand X1.here hx rfl (hb hby at_46) rfl ?_
    refine XS.iconst X1.here hx rfl (hb hby at_47) ?_
    show Steps p.tables e below (T1.setTop (mkF m 48 #[.val (.int p0), .val (.int p1), .val (.int p2), .val (.ref b180), .val (.int 4), .unset, .unset, .unset, .unset, .unset] [(.int 5), (.int (p1 &&& (2147483647 : Int32)))])) _
    refine iremM X1 hx rfl (hb hby at_48) rfl (by decide) ?_
    show Steps p.tables e below (T1.setTop (mkF m 49 #[.val (.int p0), .val (.int p1), .val (.int p2), .val (.ref b180), .val (.int 4), .unset, .unset, .unset, .unset, .unset] [(.int ((p1 &&& (2147483647 : Int32)) % (5 : Int32)))])) _
    rw [f12]
    refine XS.istore X1.here hx rfl (hb hby at_49) rfl (l' := #[.val (.int p0), .val (.int p1), .val (.int p2), .val (.ref b180), .val (.int 4), .val (.int 3), .unset, .unset, .unset, .unset]) rfl ?_
    refine XS.iloadN X1.here hx rfl (hb hby at_51) rfl ?_
    refine XS.iconst X1.here hx rfl (hb hby at_52) ?_
    show Steps p.tables e below (T1.setTop (mkF m 53 #[.val (.int p0), .val (.int p1), .val (.int p2), .val (.ref b180), .val (.int 4), .val (.int 3), .unset, .unset, .unset, .unset] [(.int 1), (.int p2)])) _
    refine XS.iand X1.here hx rfl (hb hby at_53) rfl ?_
    refine XS.ifNo X1.here hx rfl (hb hby at_54) rfl ((if0 _ _).trans (feq (f13 : ¬ ((p2 &&& (1 : Int32)) = (0 : Int32)))).1) ?_
    show Steps p.tables e below (T1.setTop (mkF m 57 #[.val (.int p0), .val (.int p1), .val (.int p2), .val (.ref b180), .val (.int 4), .val (.int 3), .unset, .unset, .unset, .unset] [])) _
    refine st3 _ ?_
    refine XS.goto X3.here hx rfl (pc0 := 60) (pc' := 66) rfl (hb hby at_60) (by decide) (by decide) ?_
    refine XS.astore X3.here hx rfl (hb hby at_66) rfl rfl (l' := #[.val (.int p0), .val (.int p1), .val (.int p2), .val (.ref b180), .val (.int 4), .val (.int 3), .val (.ref a_PROVIDER), .unset, .unset, .unset]) rfl ?_
    refine XS.aloadN X3.here hx rfl (hb hby at_68) rfl rfl ?_
    refine XS.iload X3.here hx rfl (hb hby at_69) rfl ?_
    show Steps p.tables e below (T3.setTop (mkF m 71 #[.val (.int p0), .val (.int p1), .val (.int p2), .val (.ref b180), .val (.int 4), .val (.int 3), .val (.ref a_PROVIDER), .unset, .unset, .unset] [(.int 4), (.ref b180)])) _
    refine X3.aaload hx (j := (4 : Int32)) (v := (.ref a_TERMINATED)) (by rw [e3]; exact Ar4.1) (State.isArrayOf_alike hZ.alike Ar4.2.1) rfl Ar4.2.2 hin4 hat4 (g := (mkF m 71 #[.val (.int p0), .val (.int p1), .val (.int p2), .val (.ref b180), .val (.int 4), .val (.int 3), .val (.ref a_PROVIDER), .unset, .unset, .unset] [(.int 4), (.ref b180)])) rfl rfl (hb hby at_71) _ ?_
    refine XS.astore X3.here hx rfl (hb hby at_72) rfl rfl (l' := #[.val (.int p0), .val (.int p1), .val (.int p2), .val (.ref b180), .val (.int 4), .val (.int 3), .val (.ref a_PROVIDER), .val (.ref a_TERMINATED), .unset, .unset]) rfl ?_
    refine XS.aload X3.here hx rfl (hb hby at_74) rfl rfl ?_
    show Steps p.tables e below (T3.setTop (mkF m 76 #[.val (.int p0), .val (.int p1), .val (.int p2), .val (.ref b180), .val (.int 4), .val (.int 3), .val (.ref a_PROVIDER), .val (.ref a_TERMINATED), .unset, .unset] [(.ref a_TERMINATED)])) _
    refine st7.trans ?_
    refine XS.istore X7.here hx rfl (hb hby at_79) rfl (l' := #[.val (.int p0), .val (.int p1), .val (.int p2), .val (.ref b180), .val (.int 4), .val (.int 3), .val (.ref a_PROVIDER), .val (.ref a_TERMINATED), .val (.int 1), .unset]) rfl ?_
    refine XS.iload X7.here hx rfl (hb hby at_81) rfl ?_
    refine XS.iconst X7.here hx rfl (hb hby at_83) ?_
    refine XS.icmpNo X7.here hx rfl (hb hby at_84) rfl (by decide) ?_
    show Steps p.tables e below (T7.setTop (mkF m 87 #[.val (.int p0), .val (.int p1), .val (.int p2), .val (.ref b180), .val (.int 4), .val (.int 3), .val (.ref a_PROVIDER), .val (.ref a_TERMINATED), .val (.int 1), .unset] [])) _
    refine XS.iconst X7.here hx rfl (hb hby at_87) ?_
    refine XS.goto X7.here hx rfl (pc0 := 88) (pc' := 92) rfl (hb hby at_88) (by decide) (by decide) ?_
    refine XS.istore X7.here hx rfl (hb hby at_92) rfl (l' := #[.val (.int p0), .val (.int p1), .val (.int p2), .val (.ref b180), .val (.int 4), .val (.int 3), .val (.ref a_PROVIDER), .val (.ref a_TERMINATED), .val (.int 1), .val (.int 1)]) rfl ?_
    refine XS.iload X7.here hx rfl (hb hby at_94) rfl ?_
    refine XS.iload X7.here hx rfl (hb hby at_96) rfl ?_
    show Steps p.tables e below (T7.setTop (mkF m 98 #[.val (.int p0), .val (.int p1), .val (.int p2), .val (.ref b180), .val (.int 4), .val (.int 3), .val (.ref a_PROVIDER), .val (.ref a_TERMINATED), .val (.int 1), .val (.int 1)] [(.int 1), (.int 1)])) _
    refine XS.icmpYes X7.here hx rfl (pc0 := 98) (pc' := 103) rfl (hb hby at_98) rfl (by decide) (by decide) (by decide) ?_
    refine XS.iload X7.here hx rfl (hb hby at_103) rfl ?_
    refine XS.ifNo X7.here hx rfl (hb hby at_105) rfl (by decide) ?_
    refine XS.aload X7.here hx rfl (hb hby at_108) rfl rfl ?_
    refine XS.aloadN X7.here hx rfl (hb hby at_110) rfl rfl ?_
    show Steps p.tables e below (T7.setTop (mkF m 111 #[.val (.int p0), .val (.int p1), .val (.int p2), .val (.ref b180), .val (.int 4), .val (.int 3), .val (.ref a_PROVIDER), .val (.ref a_TERMINATED), .val (.int 1), .val (.int 1)] [(.ref b180), (.ref a_TERMINATED)])) _
    refine XS.iload X7.here hx rfl (hb hby at_111) rfl ?_
    show Steps p.tables e below (T7.setTop (mkF m 113 #[.val (.int p0), .val (.int p1), .val (.int p2), .val (.ref b180), .val (.int 4), .val (.int 3), .val (.ref a_PROVIDER), .val (.ref a_TERMINATED), .val (.int 1), .val (.int 1)] [(.int 3), (.ref b180), (.ref a_TERMINATED)])) _
    refine X7.aaload hx (j := (3 : Int32)) (v := (.ref a_COMPLETED)) (by rw [e7]; exact Ar9.1) (State.isArrayOf_alike hZ.alike Ar9.2.1) rfl Ar9.2.2 hin9 hat9 (g := (mkF m 113 #[.val (.int p0), .val (.int p1), .val (.int p2), .val (.ref b180), .val (.int 4), .val (.int 3), .val (.ref a_PROVIDER), .val (.ref a_TERMINATED), .val (.int 1), .val (.int 1)] [(.int 3), (.ref b180), (.ref a_TERMINATED)])) rfl rfl (hb hby at_113) _ ?_
    refine XS.aload X7.here hx rfl (hb hby at_114) rfl rfl ?_
    show Steps p.tables e below (T7.setTop (mkF m 116 #[.val (.int p0), .val (.int p1), .val (.int p2), .val (.ref b180), .val (.int 4), .val (.int 3), .val (.ref a_PROVIDER), .val (.ref a_TERMINATED), .val (.int 1), .val (.int 1)] [(.ref a_PROVIDER), (.ref a_COMPLETED), (.ref a_TERMINATED)])) _
    refine st13.trans ?_
    refine XS.ifYes X13.here hx rfl (pc0 := 119) (pc' := 124) rfl (hb hby at_119) rfl (by decide) (by decide) (by decide) ?_
    refine XS.iconst X13.here hx rfl (hb hby at_124) ?_
    show Steps p.tables e below (T13.setTop (mkF m 125 #[.val (.int p0), .val (.int p1), .val (.int p2), .val (.ref b180), .val (.int 4), .val (.int 3), .val (.ref a_PROVIDER), .val (.ref a_TERMINATED), .val (.int 1), .val (.int 1)] [(.int 1)])) _
    exact retN X13 hx (t := .boolean) Bd.returns (by simp) (hb hby at_125) hr
  · show QT n0 _ T13.heap _
    exact ⟨rfl, N13⟩
def Q2_192 (Z : State)  (h0 : Heap) (n0 : Nat) (v : Option Value) (h : Heap) (L : List Loc) : Prop := v = (some (.int 0)) ∧ Fr n0 L ∧ Keep h0 h []
set_option maxRecDepth 65536 in
set_option maxHeartbeats 40000000 in
theorem rm2_191 (l : Launch) (Z : State) (a0 : Array Value) (hw : ∀ d ∈ tables_1, d.before a0 Z = true) (ws : List Jvm.Cond) (a_TERMINATED : Addr) (a_CONSUMER : Addr) (a_COMPLETED : Addr) (h0 : Heap) (n0 : Nat) (Z0 : n0 ≤ h0.size) (f1 : F_0 Z h0 a_TERMINATED (.int 4)) (f2 : E_0 Z h0 a_TERMINATED) (f3 : S_3 Z h0 (.ref a_COMPLETED)) (f4 : a_COMPLETED ≠ a_TERMINATED) (f5 : S_4 Z h0 (.ref a_TERMINATED)) :
    MetFree l M_4 (head1 (Jvm.Cond.code M_4 prog_6_method_5_code 3 (some .boolean) :: ws) R_1_4_32_13) (fun a U => a = #[(.ref a_TERMINATED), (.ref a_TERMINATED), (.ref a_CONSUMER)] ∧ Z.Warmed39 U.vm ∧ U.heap = h0) (fun _ _ _ _ _ => True) (fun _ U o U' => ∃ v L, o = .returned v ∧ Q2_192 Z  h0 n0 v U'.heap L ∧ ReturnedEndW U o U' L R_1_4_32_13.cells R_1_4_32_13.slots) := by
  refine MetFree.of_bodySF (plainFor_of_name pn_com_example_offer_offer_model_TransferState) hisR ?_
  intro p e s m args below meth c s₁ Bd hml0 hP hK
  obtain ⟨rfl, hZ, hh⟩ := hP
  have hx := Bd.exec
  have hby := Bd.bytes
  have hml : c.maxLocals = 3 := hml0
  have hown : s.vm.findClass "com/example/offer/offer/model/TransferState" = some m.cls := findClass_of_methodNamed Bd.named
  have hnm := (name_of_methodNamed Bd.named Bd.method).1
  have X0 : Stand p l e R_1_4_32_13 s m #[(.ref a_TERMINATED), (.ref a_TERMINATED), (.ref a_CONSUMER)] below meth c s₁ [] 0 0 := Stand.of_body Bd
  have e0 : s₁.heap = h0 := by rw [← hh, Bd.state]; rfl
  have N0 := Fr.nil n0
  obtain ⟨ax189, T1, h1, kz1, X1, e1, E1, hS1, hk1, hZ1, hown1, st1⟩ := ldcS (s := s) (vm0 := s.vm) X0 hx hZ hown (tw_32 hw) (own_strs hw) e0 ((State.WarmedH.refl s).since 0) (Nat.zero_le _) (g := (mkF m 1 #[.val (.ref a_TERMINATED), .val (.ref a_TERMINATED), .val (.ref a_CONSUMER)] [(.ref a_TERMINATED)])) rfl (hb hby d2_1) (n := 16) (by decide) (by decide) (by decide) (by decide)
  have KK1 : Keep h0 h1 [] := (Keep.refl h0 []).ext E1
  -- pc 3: java/util/Objects.requireNonNull
  obtain ⟨_, _, ⟨T2, L2, k2, n2⟩, -, X2, ⟨Lc2, hQ2, l2, y2, z2⟩, st2⟩ := Jvm.LawKit.callS X1 hx (y := M_1) hown1 (mvT hZ1 (tw_40 hw)) (mvT hZ1 (tw_41 hw)) (mvT hZ1 (tw_42 hw)) (mvT hZ1 (tw_43 hw)) (by decide) (backOf (W := 0) (rm3_117 l Z a0 hw [] a_TERMINATED ax189 h1 n0 (Nat.le_trans Z0 KK1.1) ) hZ1 (tw_43 hw) (tw_42 hw) (by decide) (by decide)) (g := (mkF m 3 #[.val (.ref a_TERMINATED), .val (.ref a_TERMINATED), .val (.ref a_CONSUMER)] [(.ref ax189), (.ref a_TERMINATED)])) rfl (by rw [hml]; rfl) (argsL := [(.ref a_TERMINATED), (.ref ax189)]) (rest := []) (lenOf pd_1 rfl) rfl (by show 2 * 0 + _ ≤ _; exact Nat.le_of_eq rfl) (hb hby d2_3) (fun _ _ => ⟨rfl, e1, (by decide : 2 + 0 ≤ _), (by decide : 20 + 0 ≤ _)⟩)
  dsimp only [Pt.U, Pt.locs, Pt.cells, Pt.slots] at X2 l2 y2 z2 st2 hQ2
  subst l2 y2 z2
  obtain ⟨rfl, Nq2, e2⟩ := hQ2
  have N2 := Fr.app N0 Nq2
  obtain ⟨ax190, T3, h3, kz3, X3, e3, E3, hS3, hk3, hZ3, hown3, st3⟩ := ldcS (s := s) (vm0 := T1.vm) X2 hx hZ1 hown1 (tw_44 hw) (own_strs hw) e2 hS1 hk1 (g := (mkF m 8 #[.val (.ref a_TERMINATED), .val (.ref a_TERMINATED), .val (.ref a_CONSUMER)] [(.ref a_CONSUMER)])) rfl (hb hby d2_8) (n := 8) (by decide) (by decide) (by decide) (by decide)
  have KK3 : Keep h0 h3 [] := KK1.ext E3
  -- pc 10: java/util/Objects.requireNonNull
  obtain ⟨_, _, ⟨T4, L4, k4, n4⟩, -, X4, ⟨Lc4, hQ4, l4, y4, z4⟩, st4⟩ := Jvm.LawKit.callS X3 hx (y := M_1) hown3 (mvT hZ3 (tw_40 hw)) (mvT hZ3 (tw_41 hw)) (mvT hZ3 (tw_42 hw)) (mvT hZ3 (tw_43 hw)) (by decide) (backOf (W := 0) (rm3_53 l Z a0 hw [] a_CONSUMER ax190 h3 n0 (Nat.le_trans Z0 KK3.1) ) hZ3 (tw_43 hw) (tw_42 hw) (by decide) (by decide)) (g := (mkF m 10 #[.val (.ref a_TERMINATED), .val (.ref a_TERMINATED), .val (.ref a_CONSUMER)] [(.ref ax190), (.ref a_CONSUMER)])) rfl (by rw [hml]; rfl) (argsL := [(.ref a_CONSUMER), (.ref ax190)]) (rest := []) (lenOf pd_1 rfl) rfl (by show 2 * 0 + _ ≤ _; exact Nat.le_of_eq rfl) (hb hby d2_10) (fun _ _ => ⟨rfl, e3, (by decide : 4 + 0 ≤ _), (by decide : 32 + 0 ≤ _)⟩)
  dsimp only [Pt.U, Pt.locs, Pt.cells, Pt.slots] at X4 l4 y4 z4 st4 hQ4
  subst l4 y4 z4
  obtain ⟨rfl, Nq4, e4⟩ := hQ4
  have N4 := Fr.app N2 Nq4
  -- pc 15: java/lang/Enum.ordinal
  have u5 : F_0 Z h1 a_TERMINATED (.int 4) := Fld.ext E1 f1
  have u6 : F_0 Z h3 a_TERMINATED (.int 4) := Fld.ext E3 u5
  have u8 : E_0 Z h1 a_TERMINATED := Exa.ext E1 f2
  have u9 : E_0 Z h3 a_TERMINATED := Exa.ext E3 u8
  obtain ⟨cq7, kq7, q7a, q7b, q7c⟩ := isOf hZ3 e4 u9
  obtain ⟨_, _, ⟨T7, L7, k7, n7⟩, -, X7, ⟨Lc7, hQ7, l7, y7, z7⟩, st7⟩ := X4.virtualBackUp hx (x := M_3) (y := M_2) (owner := "java/lang/Enum") hown3 (mvT hZ3 (tw_45 hw)) (mvT hZ3 (tw_46 hw)) (mvT hZ3 (tw_47 hw)) (by decide) (mvT hZ3 (tw_49 hw)) (mvT hZ3 (tw_48 hw)) (backOf (W := 0) (rm4_119 l Z a0 hw [] a_TERMINATED h3 n0 (Nat.le_trans Z0 KK3.1) u6) hZ3 (tw_51 hw) (tw_50 hw) (by decide) (by decide)) q7a q7c (g := (mkF m 15 #[.val (.ref a_TERMINATED), .val (.ref a_TERMINATED), .val (.ref a_CONSUMER)] [(.ref a_TERMINATED)])) rfl (by rw [hml]; rfl) (Steps.refl _) (argsL := []) (rest := []) (lenOf pd_2 rfl) rfl (by show 2 * 0 + _ ≤ _; exact Nat.le_of_eq rfl) (hb hby d2_15) (fun _ _ => ⟨rfl, e4, (by decide : 4 + 0 ≤ _), (by decide : 32 + 0 ≤ _)⟩)
  dsimp only [Pt.U, Pt.locs, Pt.cells, Pt.slots] at X7 l7 y7 z7 st7 hQ7
  subst l7 y7 z7
  obtain ⟨rfl, Nq7, e7⟩ := hQ7
  have N7 := Fr.app N4 Nq7
  -- pc 111: com/example/offer/offer/model/TransferState.isFinal
  have u10 : S_3 Z h1 (.ref a_COMPLETED) := Sta.ext E1 f3
  have u11 : S_3 Z h3 (.ref a_COMPLETED) := Sta.ext E3 u10
  have u12 : S_4 Z h1 (.ref a_TERMINATED) := Sta.ext E1 f5
  have u13 : S_4 Z h3 (.ref a_TERMINATED) := Sta.ext E3 u12
  obtain ⟨cq14, kq14, q14a, q14b, q14c⟩ := isOf hZ3 e7 u9
  obtain ⟨_, _, ⟨T14, L14, k14, n14⟩, -, X14, ⟨Lc14, hQ14, l14, y14, z14⟩, st14⟩ := X7.virtualBack hx (y := M_0) (z := M_0) hown3 (mvT hZ3 (tw_54 hw)) (mvT hZ3 (tw_19 hw)) (notFace_of_selects (args := #[]) (mvT hZ3 (tw_21 hw))) (mvT hZ3 (tw_21 hw)) (mvT hZ3 (tw_20 hw)) (by decide) (backOf (W := 0) (rm1_132 l Z a0 hw [] a_TERMINATED a_COMPLETED h3 n0 (Nat.le_trans Z0 KK3.1) u11 f4 u13) hZ3 (tw_22 hw) (tw_3 hw) (by decide) (by decide)) q14a q14c (g := (mkF m 111 #[.val (.ref a_TERMINATED), .val (.ref a_TERMINATED), .val (.ref a_CONSUMER)] [(.ref a_TERMINATED)])) rfl (by rw [hml]; rfl) (Steps.refl _) (argsL := []) (rest := []) (lenOf pd_0 rfl) rfl (by show 2 * 0 + _ ≤ _; exact Nat.le_of_eq rfl) (hb hby d2_111) (fun _ _ => ⟨rfl, e7, (by decide : 4 + 0 ≤ _), (by decide : 32 + 0 ≤ _)⟩)
  dsimp only [Pt.U, Pt.locs, Pt.cells, Pt.slots] at X14 l14 y14 z14 st14 hQ14
  subst l14 y14 z14
  obtain ⟨rfl, Nq14, e14⟩ := hQ14
  have N14 := Fr.app N7 Nq14
  obtain ⟨fs, hr, hrun, hended, hRE⟩ := X14.leaveW hS3 (by rw [e14]; exact hk3) (v := (some (.int 0))) (fun h => by rw [Bd.returns] at h; cases h)
  refine ⟨_, _, castTop (ef2_RRR m a_TERMINATED a_TERMINATED a_CONSUMER) ?_, hrun, hended, _, _, rfl, ?_, hRE.1, hRE.2.1, hRE.2.2.1, hRE.2.2.2.mono (by decide) (by decide)⟩
  · show Steps p.tables e below (s₁.setTop (mkF m 0 #[.val (.ref a_TERMINATED), .val (.ref a_TERMINATED), .val (.ref a_CONSUMER)] [])) _
    refine XS.aloadN X0.here hx rfl (hb hby d2_0) rfl rfl ?_
    show Steps p.tables e below (s₁.setTop (mkF m 1 #[.val (.ref a_TERMINATED), .val (.ref a_TERMINATED), .val (.ref a_CONSUMER)] [(.ref a_TERMINATED)])) _
    refine st1 _ ?_
    show Steps p.tables e below (T1.setTop (mkF m 3 #[.val (.ref a_TERMINATED), .val (.ref a_TERMINATED), .val (.ref a_CONSUMER)] [(.ref ax189), (.ref a_TERMINATED)])) _
    refine st2 _ ?_
    refine XS.pop X2.here hx rfl (hb hby d2_6) rfl rfl ?_
    refine XS.aloadN X2.here hx rfl (hb hby d2_7) rfl rfl ?_
    show Steps p.tables e below (T2.setTop (mkF m 8 #[.val (.ref a_TERMINATED), .val (.ref a_TERMINATED), .val (.ref a_CONSUMER)] [(.ref a_CONSUMER)])) _
    refine st3 _ ?_
    show Steps p.tables e below (T3.setTop (mkF m 10 #[.val (.ref a_TERMINATED), .val (.ref a_TERMINATED), .val (.ref a_CONSUMER)] [(.ref ax190), (.ref a_CONSUMER)])) _
    refine st4 _ ?_
    refine XS.pop X4.here hx rfl (hb hby d2_13) rfl rfl ?_
    refine XS.aloadN X4.here hx rfl (hb hby d2_14) rfl rfl ?_
    show Steps p.tables e below (T4.setTop (mkF m 15 #[.val (.ref a_TERMINATED), .val (.ref a_TERMINATED), .val (.ref a_CONSUMER)] [(.ref a_TERMINATED)])) _
    refine st7.trans ?_
    show Steps p.tables e below (T7.setTop (mkF m 18 #[.val (.ref a_TERMINATED), .val (.ref a_TERMINATED), .val (.ref a_CONSUMER)] [(.int 4)])) _
    refine XS.tswIn X7.here hx rfl (pc0 := 18) (pc' := 110) (o := 92) rfl (hb hby d2_18) rfl (by decide) (by decide) (by decide) (by decide) ?_
    refine XS.aloadN X7.here hx rfl (hb hby d2_110) rfl rfl ?_
    show Steps p.tables e below (T7.setTop (mkF m 111 #[.val (.ref a_TERMINATED), .val (.ref a_TERMINATED), .val (.ref a_CONSUMER)] [(.ref a_TERMINATED)])) _
    refine st14.trans ?_
    refine XS.ifYes X14.here hx rfl (pc0 := 114) (pc' := 121) rfl (hb hby d2_114) rfl (by decide) (by decide) (by decide) ?_
    refine XS.iconst X14.here hx rfl (hb hby d2_121) ?_
    show Steps p.tables e below (T14.setTop (mkF m 122 #[.val (.ref a_TERMINATED), .val (.ref a_TERMINATED), .val (.ref a_CONSUMER)] [(.int 0)])) _
    exact retN X14 hx (t := .boolean) Bd.returns (by simp) (hb hby d2_122) hr
  · show Q2_192 Z  h0 n0 _ T14.heap _
    rw [e14]
    exact ⟨rfl, N14, KK3⟩
set_option maxRecDepth 65536 in
set_option maxHeartbeats 40000000 in
theorem rm0_193 (l : Launch) (Z : State) (a0 : Array Value) (hw : ∀ d ∈ tables_1, d.before a0 Z = true) (ws : List Jvm.Cond) (p0 : Int32) (p1 : Int32) (p2 : Int32) (a_REQUESTED : Addr) (a_STARTED : Addr) (a_SUSPENDED : Addr) (a_COMPLETED : Addr) (a_TERMINATED : Addr) (a_CONSUMER : Addr) (h0 : Heap) (n0 : Nat) (Z0 : n0 ≤ h0.size) (f1 : S_0 Z h0 (.ref a_REQUESTED)) (f2 : E_0 Z h0 a_REQUESTED) (f3 : S_1 Z h0 (.ref a_STARTED)) (f4 : E_0 Z h0 a_STARTED) (f5 : S_2 Z h0 (.ref a_SUSPENDED)) (f6 : E_0 Z h0 a_SUSPENDED) (f7 : S_3 Z h0 (.ref a_COMPLETED)) (f8 : E_0 Z h0 a_COMPLETED) (f9 : S_4 Z h0 (.ref a_TERMINATED)) (f10 : E_0 Z h0 a_TERMINATED) (f11 : ((p0 &&& (2147483647 : Int32)) % (5 : Int32)) = (4 : Int32)) (f12 : ((p1 &&& (2147483647 : Int32)) % (5 : Int32)) = (4 : Int32)) (f13 : (p2 &&& (1 : Int32)) = (0 : Int32)) (f14 : S_5 Z h0 (.ref a_CONSUMER)) (f15 : a_COMPLETED ≠ a_TERMINATED) (f16 : F_0 Z h0 a_TERMINATED (.int 4)) :
    MetFree l x (head1 (Jvm.Cond.code x code maxLocals ret :: ws) room_1) (fun a U => a = #[(.int p0), (.int p1), (.int p2)] ∧ Z.Warmed39 U.vm ∧ U.heap = h0) (fun _ _ _ _ _ => True) (fun _ U o U' => ∃ v L, o = .returned v ∧ QT n0 v U'.heap L ∧ ReturnedEndW U o U' L room_1.cells room_1.slots) := by
  refine MetFree.of_bodySF (plainFor_of_name pn_com_example_offer_offer_model_TransferStateIsFinalPinLaw) hisR ?_
  intro p e s m args below meth c s₁ Bd hml0 hP hK
  obtain ⟨rfl, hZ, hh⟩ := hP
  have hx := Bd.exec
  have hby := Bd.bytes
  have hml : c.maxLocals = 10 := hml0
  have hown : s.vm.findClass "com/example/offer/offer/model/TransferStateIsFinalPinLaw" = some m.cls := findClass_of_methodNamed Bd.named
  have hnm := (name_of_methodNamed Bd.named Bd.method).1
  have X0 : Stand p l e room_1 s m #[(.int p0), (.int p1), (.int p2)] below meth c s₁ [] 0 0 := Stand.of_body Bd
  have e0 : s₁.heap = h0 := by rw [← hh, Bd.state]; rfl
  have N0 := Fr.nil n0
  obtain ⟨T1, h1, L1, b187, kc188, X1, e1, N1, K1, le_b187, o1_0, o1_1, st1⟩ := sg0_25 p0 p1 p2 a_REQUESTED a_STARTED a_SUSPENDED a_COMPLETED a_TERMINATED X0 hx hZ hw hby hml hown e0 N0 Z0 f1 f2 f3 f4 f5 f6 f7 f8 f9 f10
  have sz_b187 : h0.size ≤ b187 := Nat.le_trans (Nat.le_refl _) le_b187
  have g_b187 : n0 ≤ b187 := Nat.le_trans Z0 sz_b187
  have KK1 : Keep h0 h1 [] := (Keep.refl h0 []).trans K1 (fun x hx => nomatch hx)
  have u2 : S_5 Z h1 (.ref a_CONSUMER) := own_sta_keep f14 K1 (fun _ q => nomatch q)
  obtain ⟨T3, X3, e3, st3⟩ := getS2 X1 hx hZ hown (host := "") (Or.inl (tw_15 hw)) Via.refl e1 u2 (g := (mkF m 63 #[.val (.int p0), .val (.int p1), .val (.int p2), .val (.ref b187), .val (.int 4), .val (.int 4), .unset, .unset, .unset, .unset] [])) rfl (hb hby at_63)
  have va4 := o1_0
  obtain ⟨cl4, Ar4, -, S4, -, H4, -⟩ := va4
  have hin4 : ¬ ((4 : Int32) < 0 ∨ cl4.slots.size ≤ ((4 : Int32)).toNatClampNeg) := inb_of S4 ⟨by decide, by decide⟩
  have hat4 : cl4.slots[((4 : Int32)).toNatClampNeg]? = some (.ref a_TERMINATED) := H4 _ (Nat.lt_of_not_le fun y => hin4 (Or.inr y))
  -- pc 76: com/example/offer/offer/model/TransferState.isFinal
  have u5 : S_3 Z h1 (.ref a_COMPLETED) := own_sta_keep f7 K1 (fun _ q => nomatch q)
  have u6 : S_4 Z h1 (.ref a_TERMINATED) := own_sta_keep f9 K1 (fun _ q => nomatch q)
  have u8 : E_0 Z h1 a_TERMINATED := Exa.keep f10 K1
  obtain ⟨cq7, kq7, q7a, q7b, q7c⟩ := isOf hZ e3 u8
  obtain ⟨_, _, ⟨T7, L7, k7, n7⟩, -, X7, ⟨Lc7, hQ7, l7, y7, z7⟩, st7⟩ := X3.virtualBack hx (y := M_0) (z := M_0) hown (mvT hZ (tw_18 hw)) (mvT hZ (tw_19 hw)) (notFace_of_selects (args := #[]) (mvT hZ (tw_21 hw))) (mvT hZ (tw_21 hw)) (mvT hZ (tw_20 hw)) (by decide) (backOf (W := 0) (rm1_132 l Z a0 hw [] a_TERMINATED a_COMPLETED h1 n0 (Nat.le_trans Z0 KK1.1) u5 f15 u6) hZ (tw_22 hw) (tw_3 hw) (by decide) (by decide)) q7a q7c (g := (mkF m 76 #[.val (.int p0), .val (.int p1), .val (.int p2), .val (.ref b187), .val (.int 4), .val (.int 4), .val (.ref a_CONSUMER), .val (.ref a_TERMINATED), .unset, .unset] [(.ref a_TERMINATED)])) rfl (by rw [hml]; rfl) (Steps.refl _) (argsL := []) (rest := []) (lenOf pd_0 rfl) rfl (by show 2 * 0 + _ ≤ _; exact Nat.le_of_eq rfl) (hb hby at_76) (fun _ _ => ⟨rfl, e3, (by decide : 1 + 0 ≤ _), (by decide : 5 + 0 ≤ _)⟩)
  dsimp only [Pt.U, Pt.locs, Pt.cells, Pt.slots] at X7 l7 y7 z7 st7 hQ7
  subst l7 y7 z7
  obtain ⟨rfl, Nq7, e7⟩ := hQ7
  have N7 := Fr.app N1 Nq7
  have va9 := o1_0
  obtain ⟨cl9, Ar9, -, S9, -, H9, -⟩ := va9
  have hin9 : ¬ ((4 : Int32) < 0 ∨ cl9.slots.size ≤ ((4 : Int32)).toNatClampNeg) := inb_of S9 ⟨by decide, by decide⟩
  have hat9 : cl9.slots[((4 : Int32)).toNatClampNeg]? = some (.ref a_TERMINATED) := H9 _ (Nat.lt_of_not_le fun y => hin9 (Or.inr y))
  -- pc 116: com/example/offer/offer/model/TransferState.canMoveTo
  have u10 : F_0 Z h1 a_TERMINATED (.int 4) := Fld.keep f16 K1 List.not_mem_nil
  obtain ⟨cq11, kq11, q11a, q11b, q11c⟩ := isOf hZ e7 u8
  obtain ⟨_, _, ⟨T11, L11, k11, n11⟩, -, X11, hS11, hg11, ⟨Lc11, hQ11, l11, y11, z11⟩, st11⟩ := X7.virtualBackS hx (y := M_4) (z := M_4) hown (mvT hZ (tw_27 hw)) (mvT hZ (tw_28 hw)) (notFace_of_selects (args := #[]) (mvT hZ (tw_30 hw))) (mvT hZ (tw_30 hw)) (mvT hZ (tw_29 hw)) (by decide) (backOfS (W := 0) (rm2_191 l Z a0 hw [] a_TERMINATED a_CONSUMER a_COMPLETED h1 n0 (Nat.le_trans Z0 KK1.1) u10 u8 u5 f15 u6) hZ (tw_31 hw) (tw_3 hw) (by decide) (by decide)) q11a q11c (g := (mkF m 116 #[.val (.int p0), .val (.int p1), .val (.int p2), .val (.ref b187), .val (.int 4), .val (.int 4), .val (.ref a_CONSUMER), .val (.ref a_TERMINATED), .val (.int 1), .val (.int 1)] [(.ref a_CONSUMER), (.ref a_TERMINATED), (.ref a_TERMINATED)])) rfl (by rw [hml]; rfl) (Steps.refl _) (argsL := [(.ref a_TERMINATED), (.ref a_CONSUMER)]) (rest := []) (lenOf pd_3 rfl) rfl (by show 2 * 0 + _ ≤ _; exact Nat.le_of_eq rfl) (hb hby at_116) (fun _ _ => ⟨rfl, e7, (by decide : 1 + 4 ≤ _), (by decide : 5 + 32 ≤ _)⟩)
  dsimp only [Pt.U, Pt.locs, Pt.cells, Pt.slots] at X11 l11 y11 z11 st11 hQ11 hS11 hg11
  subst l11 y11 z11
  have hZ11 : Z.Warmed39 (s.setVm T11.vm).vm := State.Warmed39.trans hZ hS11.1
  have hown11 : (s.setVm T11.vm).vm.findClass "com/example/offer/offer/model/TransferStateIsFinalPinLaw" = some m.cls := by rw [show (s.setVm T11.vm).vm = T11.vm from rfl, hS11.1.alike.findClass]; exact hown
  obtain ⟨rfl, Nq11, K11⟩ := hQ11
  have N11 := Fr.app N7 Nq11
  have KK11 : Keep h0 T11.heap [] := KK1.trans K11 (fun x hx => nomatch hx)
  obtain ⟨fs, hr, hrun, hended, hRE⟩ := X11.leaveW hS11 (by exact (Nat.le_refl _)) (v := (some (.int 1))) (fun h => by rw [Bd.returns] at h; cases h)
  refine ⟨_, _, castTop (ef0_III m p0 p1 p2) ?_, hrun, hended, _, _, rfl, ?_, hRE.1, hRE.2.1, hRE.2.2.1, hRE.2.2.2.mono (by decide) (by decide)⟩
  · show Steps p.tables e below (s₁.setTop (mkF m 0 #[.val (.int p0), .val (.int p1), .val (.int p2), .unset, .unset, .unset, .unset, .unset, .unset, .unset] [])) _
    refine st1 _ ?_
    refine XS.iloadN X1.here hx rfl (hb hby at_35) rfl ?_
    show Steps p.tables e below (T1.setTop (mkF m 36 #[.val (.int p0), .val (.int p1), .val (.int p2), .val (.ref b187), .unset, .unset, .unset, .unset, .unset, .unset] [(.int p0)])) _
    refine X1.ldcInt hx hown (mvT hZ (tw_14 hw)) (g := (mkF m 36 #[.val (.int p0), .val (.int p1), .val (.int p2), .val (.ref b187), .unset, .unset, .unset, .unset, .unset, .unset] [(.int p0)])) rfl (hb hby at_36) _ ?_
    show Steps p.tables e below (T1.setTop (mkF m 38 #[.val (.int p0), .val (.int p1), .val (.int p2), .val (.ref b187), .unset, .unset, .unset, .unset, .unset, .unset] [(.int 2147483647), (.int p0)])) _
    refine XS.iand X1.here hx rfl (hb hby at_38) rfl ?_
    refine XS.iconst X1.here hx rfl (hb hby at_39) ?_
    show Steps p.tables e below (T1.setTop (mkF m 40 #[.val (.int p0), .val (.int p1), .val (.int p2), .val (.ref b187), .unset, .unset, .unset, .unset, .unset, .unset] [(.int 5), (.int (p0 &&& (2147483647 : Int32)))])) _
    refine iremM X1 hx rfl (hb hby at_40) rfl (by decide) ?_
    show Steps p.tables e below (T1.setTop (mkF m 41 #[.val (.int p0), .val (.int p1), .val (.int p2), .val (.ref b187), .unset, .unset, .unset, .unset, .unset, .unset] [(.int ((p0 &&& (2147483647 : Int32)) % (5 : Int32)))])) _
    rw [f11]
    refine XS.istore X1.here hx rfl (hb hby at_41) rfl (l' := #[.val (.int p0), .val (.int p1), .val (.int p2), .val (.ref b187), .val (.int 4), .unset, .unset, .unset, .unset, .unset]) rfl ?_
    refine XS.iloadN X1.here hx rfl (hb hby at_43) rfl ?_
    show Steps p.tables e below (T1.setTop (mkF m 44 #[.val (.int p0), .val (.int p1), .val (.int p2), .val (.ref b187), .val (.int 4), .unset, .unset, .unset, .unset, .unset] [(.int p1)])) _
    refine X1.ldcInt hx hown (mvT hZ (tw_14 hw)) (g := (mkF m 44 #[.val (.int p0), .val (.int p1), .val (.int p2), .val (.ref b187), .val (.int 4), .unset, .unset, .unset, .unset, .unset] [(.int p1)])) rfl (hb hby at_44) _ ?_
    show Steps p.tables e below (T1.setTop (mkF m 46 #[.val (.int p0), .val (.int p1), .val (.int p2), .val (.ref b187), .val (.int 4), .unset, .unset, .unset, .unset, .unset] [(.int 2147483647), (.int p1)])) _
    refine XS.iand X1.here hx rfl (hb hby at_46) rfl ?_
    refine XS.iconst X1.here hx rfl (hb hby at_47) ?_
    show Steps p.tables e below (T1.setTop (mkF m 48 #[.val (.int p0), .val (.int p1), .val (.int p2), .val (.ref b187), .val (.int 4), .unset, .unset, .unset, .unset, .unset] [(.int 5), (.int (p1 &&& (2147483647 : Int32)))])) _
    refine iremM X1 hx rfl (hb hby at_48) rfl (by decide) ?_
    show Steps p.tables e below (T1.setTop (mkF m 49 #[.val (.int p0), .val (.int p1), .val (.int p2), .val (.ref b187), .val (.int 4), .unset, .unset, .unset, .unset, .unset] [(.int ((p1 &&& (2147483647 : Int32)) % (5 : Int32)))])) _
    rw [f12]
    refine XS.istore X1.here hx rfl (hb hby at_49) rfl (l' := #[.val (.int p0), .val (.int p1), .val (.int p2), .val (.ref b187), .val (.int 4), .val (.int 4), .unset, .unset, .unset, .unset]) rfl ?_
    refine XS.iloadN X1.here hx rfl (hb hby at_51) rfl ?_
    refine XS.iconst X1.here hx rfl (hb hby at_52) ?_
    show Steps p.tables e below (T1.setTop (mkF m 53 #[.val (.int p0), .val (.int p1), .val (.int p2), .val (.ref b187), .val (.int 4), .val (.int 4), .unset, .unset, .unset, .unset] [(.int 1), (.int p2)])) _
    refine XS.iand X1.here hx rfl (hb hby at_53) rfl ?_
    refine XS.ifYes X1.here hx rfl (pc0 := 54) (pc' := 63) rfl (hb hby at_54) rfl ((if0 _ _).trans (teq (f13 : (p2 &&& (1 : Int32)) = (0 : Int32))).1) (by decide) (by decide) ?_
    show Steps p.tables e below (T1.setTop (mkF m 63 #[.val (.int p0), .val (.int p1), .val (.int p2), .val (.ref b187), .val (.int 4), .val (.int 4), .unset, .unset, .unset, .unset] [])) _
    refine st3 _ ?_
    refine XS.astore X3.here hx rfl (hb hby at_66) rfl rfl (l' := #[.val (.int p0), .val (.int p1), .val (.int p2), .val (.ref b187), .val (.int 4), .val (.int 4), .val (.ref a_CONSUMER), .unset, .unset, .unset]) rfl ?_
    refine XS.aloadN X3.here hx rfl (hb hby at_68) rfl rfl ?_
    refine XS.iload X3.here hx rfl (hb hby at_69) rfl ?_
    show Steps p.tables e below (T3.setTop (mkF m 71 #[.val (.int p0), .val (.int p1), .val (.int p2), .val (.ref b187), .val (.int 4), .val (.int 4), .val (.ref a_CONSUMER), .unset, .unset, .unset] [(.int 4), (.ref b187)])) _
    refine X3.aaload hx (j := (4 : Int32)) (v := (.ref a_TERMINATED)) (by rw [e3]; exact Ar4.1) (State.isArrayOf_alike hZ.alike Ar4.2.1) rfl Ar4.2.2 hin4 hat4 (g := (mkF m 71 #[.val (.int p0), .val (.int p1), .val (.int p2), .val (.ref b187), .val (.int 4), .val (.int 4), .val (.ref a_CONSUMER), .unset, .unset, .unset] [(.int 4), (.ref b187)])) rfl rfl (hb hby at_71) _ ?_
    refine XS.astore X3.here hx rfl (hb hby at_72) rfl rfl (l' := #[.val (.int p0), .val (.int p1), .val (.int p2), .val (.ref b187), .val (.int 4), .val (.int 4), .val (.ref a_CONSUMER), .val (.ref a_TERMINATED), .unset, .unset]) rfl ?_
    refine XS.aload X3.here hx rfl (hb hby at_74) rfl rfl ?_
    show Steps p.tables e below (T3.setTop (mkF m 76 #[.val (.int p0), .val (.int p1), .val (.int p2), .val (.ref b187), .val (.int 4), .val (.int 4), .val (.ref a_CONSUMER), .val (.ref a_TERMINATED), .unset, .unset] [(.ref a_TERMINATED)])) _
    refine st7.trans ?_
    refine XS.istore X7.here hx rfl (hb hby at_79) rfl (l' := #[.val (.int p0), .val (.int p1), .val (.int p2), .val (.ref b187), .val (.int 4), .val (.int 4), .val (.ref a_CONSUMER), .val (.ref a_TERMINATED), .val (.int 1), .unset]) rfl ?_
    refine XS.iload X7.here hx rfl (hb hby at_81) rfl ?_
    refine XS.iconst X7.here hx rfl (hb hby at_83) ?_
    refine XS.icmpNo X7.here hx rfl (hb hby at_84) rfl (by decide) ?_
    show Steps p.tables e below (T7.setTop (mkF m 87 #[.val (.int p0), .val (.int p1), .val (.int p2), .val (.ref b187), .val (.int 4), .val (.int 4), .val (.ref a_CONSUMER), .val (.ref a_TERMINATED), .val (.int 1), .unset] [])) _
    refine XS.iconst X7.here hx rfl (hb hby at_87) ?_
    refine XS.goto X7.here hx rfl (pc0 := 88) (pc' := 92) rfl (hb hby at_88) (by decide) (by decide) ?_
    refine XS.istore X7.here hx rfl (hb hby at_92) rfl (l' := #[.val (.int p0), .val (.int p1), .val (.int p2), .val (.ref b187), .val (.int 4), .val (.int 4), .val (.ref a_CONSUMER), .val (.ref a_TERMINATED), .val (.int 1), .val (.int 1)]) rfl ?_
    refine XS.iload X7.here hx rfl (hb hby at_94) rfl ?_
    refine XS.iload X7.here hx rfl (hb hby at_96) rfl ?_
    show Steps p.tables e below (T7.setTop (mkF m 98 #[.val (.int p0), .val (.int p1), .val (.int p2), .val (.ref b187), .val (.int 4), .val (.int 4), .val (.ref a_CONSUMER), .val (.ref a_TERMINATED), .val (.int 1), .val (.int 1)] [(.int 1), (.int 1)])) _
    refine XS.icmpYes X7.here hx rfl (pc0 := 98) (pc' := 103) rfl (hb hby at_98) rfl (by decide) (by decide) (by decide) ?_
    refine XS.iload X7.here hx rfl (hb hby at_103) rfl ?_
    refine XS.ifNo X7.here hx rfl (hb hby at_105) rfl (by decide) ?_
    refine XS.aload X7.here hx rfl (hb hby at_108) rfl rfl ?_
    refine XS.aloadN X7.here hx rfl (hb hby at_110) rfl rfl ?_
    show Steps p.tables e below (T7.setTop (mkF m 111 #[.val (.int p0), .val (.int p1), .val (.int p2), .val (.ref b187), .val (.int 4), .val (.int 4), .val (.ref a_CONSUMER), .val (.ref a_TERMINATED), .val (.int 1), .val (.int 1)] [(.ref b187), (.ref a_TERMINATED)])) _
    refine XS.iload X7.here hx rfl (hb hby at_111) rfl ?_
    show Steps p.tables e below (T7.setTop (mkF m 113 #[.val (.int p0), .val (.int p1), .val (.int p2), .val (.ref b187), .val (.int 4), .val (.int 4), .val (.ref a_CONSUMER), .val (.ref a_TERMINATED), .val (.int 1), .val (.int 1)] [(.int 4), (.ref b187), (.ref a_TERMINATED)])) _
    refine X7.aaload hx (j := (4 : Int32)) (v := (.ref a_TERMINATED)) (by rw [e7]; exact Ar9.1) (State.isArrayOf_alike hZ.alike Ar9.2.1) rfl Ar9.2.2 hin9 hat9 (g := (mkF m 113 #[.val (.int p0), .val (.int p1), .val (.int p2), .val (.ref b187), .val (.int 4), .val (.int 4), .val (.ref a_CONSUMER), .val (.ref a_TERMINATED), .val (.int 1), .val (.int 1)] [(.int 4), (.ref b187), (.ref a_TERMINATED)])) rfl rfl (hb hby at_113) _ ?_
    refine XS.aload X7.here hx rfl (hb hby at_114) rfl rfl ?_
    show Steps p.tables e below (T7.setTop (mkF m 116 #[.val (.int p0), .val (.int p1), .val (.int p2), .val (.ref b187), .val (.int 4), .val (.int 4), .val (.ref a_CONSUMER), .val (.ref a_TERMINATED), .val (.int 1), .val (.int 1)] [(.ref a_CONSUMER), (.ref a_TERMINATED), (.ref a_TERMINATED)])) _
    refine st11.trans ?_
    refine XS.ifYes X11.here hx rfl (pc0 := 119) (pc' := 124) rfl (hb hby at_119) rfl (by decide) (by decide) (by decide) ?_
    refine XS.iconst X11.here hx rfl (hb hby at_124) ?_
    show Steps p.tables e below (T11.setTop (mkF m 125 #[.val (.int p0), .val (.int p1), .val (.int p2), .val (.ref b187), .val (.int 4), .val (.int 4), .val (.ref a_CONSUMER), .val (.ref a_TERMINATED), .val (.int 1), .val (.int 1)] [(.int 1)])) _
    exact retN X11 hx (t := .boolean) Bd.returns (by simp) (hb hby at_125) hr
  · show QT n0 _ T11.heap _
    exact ⟨rfl, N11⟩
def Q2_199 (Z : State)  (h0 : Heap) (n0 : Nat) (v : Option Value) (h : Heap) (L : List Loc) : Prop := v = (some (.int 0)) ∧ Fr n0 L ∧ Keep h0 h []
set_option maxRecDepth 65536 in
set_option maxHeartbeats 40000000 in
theorem rm2_198 (l : Launch) (Z : State) (a0 : Array Value) (hw : ∀ d ∈ tables_1, d.before a0 Z = true) (ws : List Jvm.Cond) (a_TERMINATED : Addr) (a_PROVIDER : Addr) (a_COMPLETED : Addr) (h0 : Heap) (n0 : Nat) (Z0 : n0 ≤ h0.size) (f1 : F_0 Z h0 a_TERMINATED (.int 4)) (f2 : E_0 Z h0 a_TERMINATED) (f3 : S_3 Z h0 (.ref a_COMPLETED)) (f4 : a_COMPLETED ≠ a_TERMINATED) (f5 : S_4 Z h0 (.ref a_TERMINATED)) :
    MetFree l M_4 (head1 (Jvm.Cond.code M_4 prog_6_method_5_code 3 (some .boolean) :: ws) R_1_4_32_13) (fun a U => a = #[(.ref a_TERMINATED), (.ref a_TERMINATED), (.ref a_PROVIDER)] ∧ Z.Warmed39 U.vm ∧ U.heap = h0) (fun _ _ _ _ _ => True) (fun _ U o U' => ∃ v L, o = .returned v ∧ Q2_199 Z  h0 n0 v U'.heap L ∧ ReturnedEndW U o U' L R_1_4_32_13.cells R_1_4_32_13.slots) := by
  refine MetFree.of_bodySF (plainFor_of_name pn_com_example_offer_offer_model_TransferState) hisR ?_
  intro p e s m args below meth c s₁ Bd hml0 hP hK
  obtain ⟨rfl, hZ, hh⟩ := hP
  have hx := Bd.exec
  have hby := Bd.bytes
  have hml : c.maxLocals = 3 := hml0
  have hown : s.vm.findClass "com/example/offer/offer/model/TransferState" = some m.cls := findClass_of_methodNamed Bd.named
  have hnm := (name_of_methodNamed Bd.named Bd.method).1
  have X0 : Stand p l e R_1_4_32_13 s m #[(.ref a_TERMINATED), (.ref a_TERMINATED), (.ref a_PROVIDER)] below meth c s₁ [] 0 0 := Stand.of_body Bd
  have e0 : s₁.heap = h0 := by rw [← hh, Bd.state]; rfl
  have N0 := Fr.nil n0
  obtain ⟨ax196, T1, h1, kz1, X1, e1, E1, hS1, hk1, hZ1, hown1, st1⟩ := ldcS (s := s) (vm0 := s.vm) X0 hx hZ hown (tw_32 hw) (own_strs hw) e0 ((State.WarmedH.refl s).since 0) (Nat.zero_le _) (g := (mkF m 1 #[.val (.ref a_TERMINATED), .val (.ref a_TERMINATED), .val (.ref a_PROVIDER)] [(.ref a_TERMINATED)])) rfl (hb hby d2_1) (n := 16) (by decide) (by decide) (by decide) (by decide)
  have KK1 : Keep h0 h1 [] := (Keep.refl h0 []).ext E1
  -- pc 3: java/util/Objects.requireNonNull
  obtain ⟨_, _, ⟨T2, L2, k2, n2⟩, -, X2, ⟨Lc2, hQ2, l2, y2, z2⟩, st2⟩ := Jvm.LawKit.callS X1 hx (y := M_1) hown1 (mvT hZ1 (tw_40 hw)) (mvT hZ1 (tw_41 hw)) (mvT hZ1 (tw_42 hw)) (mvT hZ1 (tw_43 hw)) (by decide) (backOf (W := 0) (rm3_117 l Z a0 hw [] a_TERMINATED ax196 h1 n0 (Nat.le_trans Z0 KK1.1) ) hZ1 (tw_43 hw) (tw_42 hw) (by decide) (by decide)) (g := (mkF m 3 #[.val (.ref a_TERMINATED), .val (.ref a_TERMINATED), .val (.ref a_PROVIDER)] [(.ref ax196), (.ref a_TERMINATED)])) rfl (by rw [hml]; rfl) (argsL := [(.ref a_TERMINATED), (.ref ax196)]) (rest := []) (lenOf pd_1 rfl) rfl (by show 2 * 0 + _ ≤ _; exact Nat.le_of_eq rfl) (hb hby d2_3) (fun _ _ => ⟨rfl, e1, (by decide : 2 + 0 ≤ _), (by decide : 20 + 0 ≤ _)⟩)
  dsimp only [Pt.U, Pt.locs, Pt.cells, Pt.slots] at X2 l2 y2 z2 st2 hQ2
  subst l2 y2 z2
  obtain ⟨rfl, Nq2, e2⟩ := hQ2
  have N2 := Fr.app N0 Nq2
  obtain ⟨ax197, T3, h3, kz3, X3, e3, E3, hS3, hk3, hZ3, hown3, st3⟩ := ldcS (s := s) (vm0 := T1.vm) X2 hx hZ1 hown1 (tw_44 hw) (own_strs hw) e2 hS1 hk1 (g := (mkF m 8 #[.val (.ref a_TERMINATED), .val (.ref a_TERMINATED), .val (.ref a_PROVIDER)] [(.ref a_PROVIDER)])) rfl (hb hby d2_8) (n := 8) (by decide) (by decide) (by decide) (by decide)
  have KK3 : Keep h0 h3 [] := KK1.ext E3
  -- pc 10: java/util/Objects.requireNonNull
  obtain ⟨_, _, ⟨T4, L4, k4, n4⟩, -, X4, ⟨Lc4, hQ4, l4, y4, z4⟩, st4⟩ := Jvm.LawKit.callS X3 hx (y := M_1) hown3 (mvT hZ3 (tw_40 hw)) (mvT hZ3 (tw_41 hw)) (mvT hZ3 (tw_42 hw)) (mvT hZ3 (tw_43 hw)) (by decide) (backOf (W := 0) (rm3_62 l Z a0 hw [] a_PROVIDER ax197 h3 n0 (Nat.le_trans Z0 KK3.1) ) hZ3 (tw_43 hw) (tw_42 hw) (by decide) (by decide)) (g := (mkF m 10 #[.val (.ref a_TERMINATED), .val (.ref a_TERMINATED), .val (.ref a_PROVIDER)] [(.ref ax197), (.ref a_PROVIDER)])) rfl (by rw [hml]; rfl) (argsL := [(.ref a_PROVIDER), (.ref ax197)]) (rest := []) (lenOf pd_1 rfl) rfl (by show 2 * 0 + _ ≤ _; exact Nat.le_of_eq rfl) (hb hby d2_10) (fun _ _ => ⟨rfl, e3, (by decide : 4 + 0 ≤ _), (by decide : 32 + 0 ≤ _)⟩)
  dsimp only [Pt.U, Pt.locs, Pt.cells, Pt.slots] at X4 l4 y4 z4 st4 hQ4
  subst l4 y4 z4
  obtain ⟨rfl, Nq4, e4⟩ := hQ4
  have N4 := Fr.app N2 Nq4
  -- pc 15: java/lang/Enum.ordinal
  have u5 : F_0 Z h1 a_TERMINATED (.int 4) := Fld.ext E1 f1
  have u6 : F_0 Z h3 a_TERMINATED (.int 4) := Fld.ext E3 u5
  have u8 : E_0 Z h1 a_TERMINATED := Exa.ext E1 f2
  have u9 : E_0 Z h3 a_TERMINATED := Exa.ext E3 u8
  obtain ⟨cq7, kq7, q7a, q7b, q7c⟩ := isOf hZ3 e4 u9
  obtain ⟨_, _, ⟨T7, L7, k7, n7⟩, -, X7, ⟨Lc7, hQ7, l7, y7, z7⟩, st7⟩ := X4.virtualBackUp hx (x := M_3) (y := M_2) (owner := "java/lang/Enum") hown3 (mvT hZ3 (tw_45 hw)) (mvT hZ3 (tw_46 hw)) (mvT hZ3 (tw_47 hw)) (by decide) (mvT hZ3 (tw_49 hw)) (mvT hZ3 (tw_48 hw)) (backOf (W := 0) (rm4_119 l Z a0 hw [] a_TERMINATED h3 n0 (Nat.le_trans Z0 KK3.1) u6) hZ3 (tw_51 hw) (tw_50 hw) (by decide) (by decide)) q7a q7c (g := (mkF m 15 #[.val (.ref a_TERMINATED), .val (.ref a_TERMINATED), .val (.ref a_PROVIDER)] [(.ref a_TERMINATED)])) rfl (by rw [hml]; rfl) (Steps.refl _) (argsL := []) (rest := []) (lenOf pd_2 rfl) rfl (by show 2 * 0 + _ ≤ _; exact Nat.le_of_eq rfl) (hb hby d2_15) (fun _ _ => ⟨rfl, e4, (by decide : 4 + 0 ≤ _), (by decide : 32 + 0 ≤ _)⟩)
  dsimp only [Pt.U, Pt.locs, Pt.cells, Pt.slots] at X7 l7 y7 z7 st7 hQ7
  subst l7 y7 z7
  obtain ⟨rfl, Nq7, e7⟩ := hQ7
  have N7 := Fr.app N4 Nq7
  -- pc 111: com/example/offer/offer/model/TransferState.isFinal
  have u10 : S_3 Z h1 (.ref a_COMPLETED) := Sta.ext E1 f3
  have u11 : S_3 Z h3 (.ref a_COMPLETED) := Sta.ext E3 u10
  have u12 : S_4 Z h1 (.ref a_TERMINATED) := Sta.ext E1 f5
  have u13 : S_4 Z h3 (.ref a_TERMINATED) := Sta.ext E3 u12
  obtain ⟨cq14, kq14, q14a, q14b, q14c⟩ := isOf hZ3 e7 u9
  obtain ⟨_, _, ⟨T14, L14, k14, n14⟩, -, X14, ⟨Lc14, hQ14, l14, y14, z14⟩, st14⟩ := X7.virtualBack hx (y := M_0) (z := M_0) hown3 (mvT hZ3 (tw_54 hw)) (mvT hZ3 (tw_19 hw)) (notFace_of_selects (args := #[]) (mvT hZ3 (tw_21 hw))) (mvT hZ3 (tw_21 hw)) (mvT hZ3 (tw_20 hw)) (by decide) (backOf (W := 0) (rm1_132 l Z a0 hw [] a_TERMINATED a_COMPLETED h3 n0 (Nat.le_trans Z0 KK3.1) u11 f4 u13) hZ3 (tw_22 hw) (tw_3 hw) (by decide) (by decide)) q14a q14c (g := (mkF m 111 #[.val (.ref a_TERMINATED), .val (.ref a_TERMINATED), .val (.ref a_PROVIDER)] [(.ref a_TERMINATED)])) rfl (by rw [hml]; rfl) (Steps.refl _) (argsL := []) (rest := []) (lenOf pd_0 rfl) rfl (by show 2 * 0 + _ ≤ _; exact Nat.le_of_eq rfl) (hb hby d2_111) (fun _ _ => ⟨rfl, e7, (by decide : 4 + 0 ≤ _), (by decide : 32 + 0 ≤ _)⟩)
  dsimp only [Pt.U, Pt.locs, Pt.cells, Pt.slots] at X14 l14 y14 z14 st14 hQ14
  subst l14 y14 z14
  obtain ⟨rfl, Nq14, e14⟩ := hQ14
  have N14 := Fr.app N7 Nq14
  obtain ⟨fs, hr, hrun, hended, hRE⟩ := X14.leaveW hS3 (by rw [e14]; exact hk3) (v := (some (.int 0))) (fun h => by rw [Bd.returns] at h; cases h)
  refine ⟨_, _, castTop (ef2_RRR m a_TERMINATED a_TERMINATED a_PROVIDER) ?_, hrun, hended, _, _, rfl, ?_, hRE.1, hRE.2.1, hRE.2.2.1, hRE.2.2.2.mono (by decide) (by decide)⟩
  · show Steps p.tables e below (s₁.setTop (mkF m 0 #[.val (.ref a_TERMINATED), .val (.ref a_TERMINATED), .val (.ref a_PROVIDER)] [])) _
    refine XS.aloadN X0.here hx rfl (hb hby d2_0) rfl rfl ?_
    show Steps p.tables e below (s₁.setTop (mkF m 1 #[.val (.ref a_TERMINATED), .val (.ref a_TERMINATED), .val (.ref a_PROVIDER)] [(.ref a_TERMINATED)])) _
    refine st1 _ ?_
    show Steps p.tables e below (T1.setTop (mkF m 3 #[.val (.ref a_TERMINATED), .val (.ref a_TERMINATED), .val (.ref a_PROVIDER)] [(.ref ax196), (.ref a_TERMINATED)])) _
    refine st2 _ ?_
    refine XS.pop X2.here hx rfl (hb hby d2_6) rfl rfl ?_
    refine XS.aloadN X2.here hx rfl (hb hby d2_7) rfl rfl ?_
    show Steps p.tables e below (T2.setTop (mkF m 8 #[.val (.ref a_TERMINATED), .val (.ref a_TERMINATED), .val (.ref a_PROVIDER)] [(.ref a_PROVIDER)])) _
    refine st3 _ ?_
    show Steps p.tables e below (T3.setTop (mkF m 10 #[.val (.ref a_TERMINATED), .val (.ref a_TERMINATED), .val (.ref a_PROVIDER)] [(.ref ax197), (.ref a_PROVIDER)])) _
    refine st4 _ ?_
    refine XS.pop X4.here hx rfl (hb hby d2_13) rfl rfl ?_
    refine XS.aloadN X4.here hx rfl (hb hby d2_14) rfl rfl ?_
    show Steps p.tables e below (T4.setTop (mkF m 15 #[.val (.ref a_TERMINATED), .val (.ref a_TERMINATED), .val (.ref a_PROVIDER)] [(.ref a_TERMINATED)])) _
    refine st7.trans ?_
    show Steps p.tables e below (T7.setTop (mkF m 18 #[.val (.ref a_TERMINATED), .val (.ref a_TERMINATED), .val (.ref a_PROVIDER)] [(.int 4)])) _
    refine XS.tswIn X7.here hx rfl (pc0 := 18) (pc' := 110) (o := 92) rfl (hb hby d2_18) rfl (by decide) (by decide) (by decide) (by decide) ?_
    refine XS.aloadN X7.here hx rfl (hb hby d2_110) rfl rfl ?_
    show Steps p.tables e below (T7.setTop (mkF m 111 #[.val (.ref a_TERMINATED), .val (.ref a_TERMINATED), .val (.ref a_PROVIDER)] [(.ref a_TERMINATED)])) _
    refine st14.trans ?_
    refine XS.ifYes X14.here hx rfl (pc0 := 114) (pc' := 121) rfl (hb hby d2_114) rfl (by decide) (by decide) (by decide) ?_
    refine XS.iconst X14.here hx rfl (hb hby d2_121) ?_
    show Steps p.tables e below (T14.setTop (mkF m 122 #[.val (.ref a_TERMINATED), .val (.ref a_TERMINATED), .val (.ref a_PROVIDER)] [(.int 0)])) _
    exact retN X14 hx (t := .boolean) Bd.returns (by simp) (hb hby d2_122) hr
  · show Q2_199 Z  h0 n0 _ T14.heap _
    rw [e14]
    exact ⟨rfl, N14, KK3⟩
set_option maxRecDepth 65536 in
set_option maxHeartbeats 40000000 in
theorem rm0_200 (l : Launch) (Z : State) (a0 : Array Value) (hw : ∀ d ∈ tables_1, d.before a0 Z = true) (ws : List Jvm.Cond) (p0 : Int32) (p1 : Int32) (p2 : Int32) (a_REQUESTED : Addr) (a_STARTED : Addr) (a_SUSPENDED : Addr) (a_COMPLETED : Addr) (a_TERMINATED : Addr) (a_PROVIDER : Addr) (h0 : Heap) (n0 : Nat) (Z0 : n0 ≤ h0.size) (f1 : S_0 Z h0 (.ref a_REQUESTED)) (f2 : E_0 Z h0 a_REQUESTED) (f3 : S_1 Z h0 (.ref a_STARTED)) (f4 : E_0 Z h0 a_STARTED) (f5 : S_2 Z h0 (.ref a_SUSPENDED)) (f6 : E_0 Z h0 a_SUSPENDED) (f7 : S_3 Z h0 (.ref a_COMPLETED)) (f8 : E_0 Z h0 a_COMPLETED) (f9 : S_4 Z h0 (.ref a_TERMINATED)) (f10 : E_0 Z h0 a_TERMINATED) (f11 : ((p0 &&& (2147483647 : Int32)) % (5 : Int32)) = (4 : Int32)) (f12 : ((p1 &&& (2147483647 : Int32)) % (5 : Int32)) = (4 : Int32)) (f13 : ¬ ((p2 &&& (1 : Int32)) = (0 : Int32))) (f14 : S_6 Z h0 (.ref a_PROVIDER)) (f15 : a_COMPLETED ≠ a_TERMINATED) (f16 : F_0 Z h0 a_TERMINATED (.int 4)) :
    MetFree l x (head1 (Jvm.Cond.code x code maxLocals ret :: ws) room_1) (fun a U => a = #[(.int p0), (.int p1), (.int p2)] ∧ Z.Warmed39 U.vm ∧ U.heap = h0) (fun _ _ _ _ _ => True) (fun _ U o U' => ∃ v L, o = .returned v ∧ QT n0 v U'.heap L ∧ ReturnedEndW U o U' L room_1.cells room_1.slots) := by
  refine MetFree.of_bodySF (plainFor_of_name pn_com_example_offer_offer_model_TransferStateIsFinalPinLaw) hisR ?_
  intro p e s m args below meth c s₁ Bd hml0 hP hK
  obtain ⟨rfl, hZ, hh⟩ := hP
  have hx := Bd.exec
  have hby := Bd.bytes
  have hml : c.maxLocals = 10 := hml0
  have hown : s.vm.findClass "com/example/offer/offer/model/TransferStateIsFinalPinLaw" = some m.cls := findClass_of_methodNamed Bd.named
  have hnm := (name_of_methodNamed Bd.named Bd.method).1
  have X0 : Stand p l e room_1 s m #[(.int p0), (.int p1), (.int p2)] below meth c s₁ [] 0 0 := Stand.of_body Bd
  have e0 : s₁.heap = h0 := by rw [← hh, Bd.state]; rfl
  have N0 := Fr.nil n0
  obtain ⟨T1, h1, L1, b194, kc195, X1, e1, N1, K1, le_b194, o1_0, o1_1, st1⟩ := sg0_25 p0 p1 p2 a_REQUESTED a_STARTED a_SUSPENDED a_COMPLETED a_TERMINATED X0 hx hZ hw hby hml hown e0 N0 Z0 f1 f2 f3 f4 f5 f6 f7 f8 f9 f10
  have sz_b194 : h0.size ≤ b194 := Nat.le_trans (Nat.le_refl _) le_b194
  have g_b194 : n0 ≤ b194 := Nat.le_trans Z0 sz_b194
  have KK1 : Keep h0 h1 [] := (Keep.refl h0 []).trans K1 (fun x hx => nomatch hx)
  have u2 : S_6 Z h1 (.ref a_PROVIDER) := own_sta_keep f14 K1 (fun _ q => nomatch q)
  obtain ⟨T3, X3, e3, st3⟩ := getS2 X1 hx hZ hown (host := "") (Or.inl (tw_25 hw)) Via.refl e1 u2 (g := (mkF m 57 #[.val (.int p0), .val (.int p1), .val (.int p2), .val (.ref b194), .val (.int 4), .val (.int 4), .unset, .unset, .unset, .unset] [])) rfl (hb hby at_57)
  have va4 := o1_0
  obtain ⟨cl4, Ar4, -, S4, -, H4, -⟩ := va4
  have hin4 : ¬ ((4 : Int32) < 0 ∨ cl4.slots.size ≤ ((4 : Int32)).toNatClampNeg) := inb_of S4 ⟨by decide, by decide⟩
  have hat4 : cl4.slots[((4 : Int32)).toNatClampNeg]? = some (.ref a_TERMINATED) := H4 _ (Nat.lt_of_not_le fun y => hin4 (Or.inr y))
  -- pc 76: com/example/offer/offer/model/TransferState.isFinal
  have u5 : S_3 Z h1 (.ref a_COMPLETED) := own_sta_keep f7 K1 (fun _ q => nomatch q)
  have u6 : S_4 Z h1 (.ref a_TERMINATED) := own_sta_keep f9 K1 (fun _ q => nomatch q)
  have u8 : E_0 Z h1 a_TERMINATED := Exa.keep f10 K1
  obtain ⟨cq7, kq7, q7a, q7b, q7c⟩ := isOf hZ e3 u8
  obtain ⟨_, _, ⟨T7, L7, k7, n7⟩, -, X7, ⟨Lc7, hQ7, l7, y7, z7⟩, st7⟩ := X3.virtualBack hx (y := M_0) (z := M_0) hown (mvT hZ (tw_18 hw)) (mvT hZ (tw_19 hw)) (notFace_of_selects (args := #[]) (mvT hZ (tw_21 hw))) (mvT hZ (tw_21 hw)) (mvT hZ (tw_20 hw)) (by decide) (backOf (W := 0) (rm1_132 l Z a0 hw [] a_TERMINATED a_COMPLETED h1 n0 (Nat.le_trans Z0 KK1.1) u5 f15 u6) hZ (tw_22 hw) (tw_3 hw) (by decide) (by decide)) q7a q7c (g := (mkF m 76 #[.val (.int p0), .val (.int p1), .val (.int p2), .val (.ref b194), .val (.int 4), .val (.int 4), .val (.ref a_PROVIDER), .val (.ref a_TERMINATED), .unset, .unset] [(.ref a_TERMINATED)])) rfl (by rw [hml]; rfl) (Steps.refl _) (argsL := []) (rest := []) (lenOf pd_0 rfl) rfl (by show 2 * 0 + _ ≤ _; exact Nat.le_of_eq rfl) (hb hby at_76) (fun _ _ => ⟨rfl, e3, (by decide : 1 + 0 ≤ _), (by decide : 5 + 0 ≤ _)⟩)
  dsimp only [Pt.U, Pt.locs, Pt.cells, Pt.slots] at X7 l7 y7 z7 st7 hQ7
  subst l7 y7 z7
  obtain ⟨rfl, Nq7, e7⟩ := hQ7
  have N7 := Fr.app N1 Nq7
  have va9 := o1_0
  obtain ⟨cl9, Ar9, -, S9, -, H9, -⟩ := va9
  have hin9 : ¬ ((4 : Int32) < 0 ∨ cl9.slots.size ≤ ((4 : Int32)).toNatClampNeg) := inb_of S9 ⟨by decide, by decide⟩
  have hat9 : cl9.slots[((4 : Int32)).toNatClampNeg]? = some (.ref a_TERMINATED) := H9 _ (Nat.lt_of_not_le fun y => hin9 (Or.inr y))
  -- pc 116: com/example/offer/offer/model/TransferState.canMoveTo
  have u10 : F_0 Z h1 a_TERMINATED (.int 4) := Fld.keep f16 K1 List.not_mem_nil
  obtain ⟨cq11, kq11, q11a, q11b, q11c⟩ := isOf hZ e7 u8
  obtain ⟨_, _, ⟨T11, L11, k11, n11⟩, -, X11, hS11, hg11, ⟨Lc11, hQ11, l11, y11, z11⟩, st11⟩ := X7.virtualBackS hx (y := M_4) (z := M_4) hown (mvT hZ (tw_27 hw)) (mvT hZ (tw_28 hw)) (notFace_of_selects (args := #[]) (mvT hZ (tw_30 hw))) (mvT hZ (tw_30 hw)) (mvT hZ (tw_29 hw)) (by decide) (backOfS (W := 0) (rm2_198 l Z a0 hw [] a_TERMINATED a_PROVIDER a_COMPLETED h1 n0 (Nat.le_trans Z0 KK1.1) u10 u8 u5 f15 u6) hZ (tw_31 hw) (tw_3 hw) (by decide) (by decide)) q11a q11c (g := (mkF m 116 #[.val (.int p0), .val (.int p1), .val (.int p2), .val (.ref b194), .val (.int 4), .val (.int 4), .val (.ref a_PROVIDER), .val (.ref a_TERMINATED), .val (.int 1), .val (.int 1)] [(.ref a_PROVIDER), (.ref a_TERMINATED), (.ref a_TERMINATED)])) rfl (by rw [hml]; rfl) (Steps.refl _) (argsL := [(.ref a_TERMINATED), (.ref a_PROVIDER)]) (rest := []) (lenOf pd_3 rfl) rfl (by show 2 * 0 + _ ≤ _; exact Nat.le_of_eq rfl) (hb hby at_116) (fun _ _ => ⟨rfl, e7, (by decide : 1 + 4 ≤ _), (by decide : 5 + 32 ≤ _)⟩)
  dsimp only [Pt.U, Pt.locs, Pt.cells, Pt.slots] at X11 l11 y11 z11 st11 hQ11 hS11 hg11
  subst l11 y11 z11
  have hZ11 : Z.Warmed39 (s.setVm T11.vm).vm := State.Warmed39.trans hZ hS11.1
  have hown11 : (s.setVm T11.vm).vm.findClass "com/example/offer/offer/model/TransferStateIsFinalPinLaw" = some m.cls := by rw [show (s.setVm T11.vm).vm = T11.vm from rfl, hS11.1.alike.findClass]; exact hown
  obtain ⟨rfl, Nq11, K11⟩ := hQ11
  have N11 := Fr.app N7 Nq11
  have KK11 : Keep h0 T11.heap [] := KK1.trans K11 (fun x hx => nomatch hx)
  obtain ⟨fs, hr, hrun, hended, hRE⟩ := X11.leaveW hS11 (by exact (Nat.le_refl _)) (v := (some (.int 1))) (fun h => by rw [Bd.returns] at h; cases h)
  refine ⟨_, _, castTop (ef0_III m p0 p1 p2) ?_, hrun, hended, _, _, rfl, ?_, hRE.1, hRE.2.1, hRE.2.2.1, hRE.2.2.2.mono (by decide) (by decide)⟩
  · show Steps p.tables e below (s₁.setTop (mkF m 0 #[.val (.int p0), .val (.int p1), .val (.int p2), .unset, .unset, .unset, .unset, .unset, .unset, .unset] [])) _
    refine st1 _ ?_
    refine XS.iloadN X1.here hx rfl (hb hby at_35) rfl ?_
    show Steps p.tables e below (T1.setTop (mkF m 36 #[.val (.int p0), .val (.int p1), .val (.int p2), .val (.ref b194), .unset, .unset, .unset, .unset, .unset, .unset] [(.int p0)])) _
    refine X1.ldcInt hx hown (mvT hZ (tw_14 hw)) (g := (mkF m 36 #[.val (.int p0), .val (.int p1), .val (.int p2), .val (.ref b194), .unset, .unset, .unset, .unset, .unset, .unset] [(.int p0)])) rfl (hb hby at_36) _ ?_
    show Steps p.tables e below (T1.setTop (mkF m 38 #[.val (.int p0), .val (.int p1), .val (.int p2), .val (.ref b194), .unset, .unset, .unset, .unset, .unset, .unset] [(.int 2147483647), (.int p0)])) _
    refine XS.iand X1.here hx rfl (hb hby at_38) rfl ?_
    refine XS.iconst X1.here hx rfl (hb hby at_39) ?_
    show Steps p.tables e below (T1.setTop (mkF m 40 #[.val (.int p0), .val (.int p1), .val (.int p2), .val (.ref b194), .unset, .unset, .unset, .unset, .unset, .unset] [(.int 5), (.int (p0 &&& (2147483647 : Int32)))])) _
    refine iremM X1 hx rfl (hb hby at_40) rfl (by decide) ?_
    show Steps p.tables e below (T1.setTop (mkF m 41 #[.val (.int p0), .val (.int p1), .val (.int p2), .val (.ref b194), .unset, .unset, .unset, .unset, .unset, .unset] [(.int ((p0 &&& (2147483647 : Int32)) % (5 : Int32)))])) _
    rw [f11]
    refine XS.istore X1.here hx rfl (hb hby at_41) rfl (l' := #[.val (.int p0), .val (.int p1), .val (.int p2), .val (.ref b194), .val (.int 4), .unset, .unset, .unset, .unset, .unset]) rfl ?_
    refine XS.iloadN X1.here hx rfl (hb hby at_43) rfl ?_
    show Steps p.tables e below (T1.setTop (mkF m 44 #[.val (.int p0), .val (.int p1), .val (.int p2), .val (.ref b194), .val (.int 4), .unset, .unset, .unset, .unset, .unset] [(.int p1)])) _
    refine X1.ldcInt hx hown (mvT hZ (tw_14 hw)) (g := (mkF m 44 #[.val (.int p0), .val (.int p1), .val (.int p2), .val (.ref b194), .val (.int 4), .unset, .unset, .unset, .unset, .unset] [(.int p1)])) rfl (hb hby at_44) _ ?_
    show Steps p.tables e below (T1.setTop (mkF m 46 #[.val (.int p0), .val (.int p1), .val (.int p2), .val (.ref b194), .val (.int 4), .unset, .unset, .unset, .unset, .unset] [(.int 2147483647), (.int p1)])) _
    refine XS.iand X1.here hx rfl (hb hby at_46) rfl ?_
    refine XS.iconst X1.here hx rfl (hb hby at_47) ?_
    show Steps p.tables e below (T1.setTop (mkF m 48 #[.val (.int p0), .val (.int p1), .val (.int p2), .val (.ref b194), .val (.int 4), .unset, .unset, .unset, .unset, .unset] [(.int 5), (.int (p1 &&& (2147483647 : Int32)))])) _
    refine iremM X1 hx rfl (hb hby at_48) rfl (by decide) ?_
    show Steps p.tables e below (T1.setTop (mkF m 49 #[.val (.int p0), .val (.int p1), .val (.int p2), .val (.ref b194), .val (.int 4), .unset, .unset, .unset, .unset, .unset] [(.int ((p1 &&& (2147483647 : Int32)) % (5 : Int32)))])) _
    rw [f12]
    refine XS.istore X1.here hx rfl (hb hby at_49) rfl (l' := #[.val (.int p0), .val (.int p1), .val (.int p2), .val (.ref b194), .val (.int 4), .val (.int 4), .unset, .unset, .unset, .unset]) rfl ?_
    refine XS.iloadN X1.here hx rfl (hb hby at_51) rfl ?_
    refine XS.iconst X1.here hx rfl (hb hby at_52) ?_
    show Steps p.tables e below (T1.setTop (mkF m 53 #[.val (.int p0), .val (.int p1), .val (.int p2), .val (.ref b194), .val (.int 4), .val (.int 4), .unset, .unset, .unset, .unset] [(.int 1), (.int p2)])) _
    refine XS.iand X1.here hx rfl (hb hby at_53) rfl ?_
    refine XS.ifNo X1.here hx rfl (hb hby at_54) rfl ((if0 _ _).trans (feq (f13 : ¬ ((p2 &&& (1 : Int32)) = (0 : Int32)))).1) ?_
    show Steps p.tables e below (T1.setTop (mkF m 57 #[.val (.int p0), .val (.int p1), .val (.int p2), .val (.ref b194), .val (.int 4), .val (.int 4), .unset, .unset, .unset, .unset] [])) _
    refine st3 _ ?_
    refine XS.goto X3.here hx rfl (pc0 := 60) (pc' := 66) rfl (hb hby at_60) (by decide) (by decide) ?_
    refine XS.astore X3.here hx rfl (hb hby at_66) rfl rfl (l' := #[.val (.int p0), .val (.int p1), .val (.int p2), .val (.ref b194), .val (.int 4), .val (.int 4), .val (.ref a_PROVIDER), .unset, .unset, .unset]) rfl ?_
    refine XS.aloadN X3.here hx rfl (hb hby at_68) rfl rfl ?_
    refine XS.iload X3.here hx rfl (hb hby at_69) rfl ?_
    show Steps p.tables e below (T3.setTop (mkF m 71 #[.val (.int p0), .val (.int p1), .val (.int p2), .val (.ref b194), .val (.int 4), .val (.int 4), .val (.ref a_PROVIDER), .unset, .unset, .unset] [(.int 4), (.ref b194)])) _
    refine X3.aaload hx (j := (4 : Int32)) (v := (.ref a_TERMINATED)) (by rw [e3]; exact Ar4.1) (State.isArrayOf_alike hZ.alike Ar4.2.1) rfl Ar4.2.2 hin4 hat4 (g := (mkF m 71 #[.val (.int p0), .val (.int p1), .val (.int p2), .val (.ref b194), .val (.int 4), .val (.int 4), .val (.ref a_PROVIDER), .unset, .unset, .unset] [(.int 4), (.ref b194)])) rfl rfl (hb hby at_71) _ ?_
    refine XS.astore X3.here hx rfl (hb hby at_72) rfl rfl (l' := #[.val (.int p0), .val (.int p1), .val (.int p2), .val (.ref b194), .val (.int 4), .val (.int 4), .val (.ref a_PROVIDER), .val (.ref a_TERMINATED), .unset, .unset]) rfl ?_
    refine XS.aload X3.here hx rfl (hb hby at_74) rfl rfl ?_
    show Steps p.tables e below (T3.setTop (mkF m 76 #[.val (.int p0), .val (.int p1), .val (.int p2), .val (.ref b194), .val (.int 4), .val (.int 4), .val (.ref a_PROVIDER), .val (.ref a_TERMINATED), .unset, .unset] [(.ref a_TERMINATED)])) _
    refine st7.trans ?_
    refine XS.istore X7.here hx rfl (hb hby at_79) rfl (l' := #[.val (.int p0), .val (.int p1), .val (.int p2), .val (.ref b194), .val (.int 4), .val (.int 4), .val (.ref a_PROVIDER), .val (.ref a_TERMINATED), .val (.int 1), .unset]) rfl ?_
    refine XS.iload X7.here hx rfl (hb hby at_81) rfl ?_
    refine XS.iconst X7.here hx rfl (hb hby at_83) ?_
    refine XS.icmpNo X7.here hx rfl (hb hby at_84) rfl (by decide) ?_
    show Steps p.tables e below (T7.setTop (mkF m 87 #[.val (.int p0), .val (.int p1), .val (.int p2), .val (.ref b194), .val (.int 4), .val (.int 4), .val (.ref a_PROVIDER), .val (.ref a_TERMINATED), .val (.int 1), .unset] [])) _
    refine XS.iconst X7.here hx rfl (hb hby at_87) ?_
    refine XS.goto X7.here hx rfl (pc0 := 88) (pc' := 92) rfl (hb hby at_88) (by decide) (by decide) ?_
    refine XS.istore X7.here hx rfl (hb hby at_92) rfl (l' := #[.val (.int p0), .val (.int p1), .val (.int p2), .val (.ref b194), .val (.int 4), .val (.int 4), .val (.ref a_PROVIDER), .val (.ref a_TERMINATED), .val (.int 1), .val (.int 1)]) rfl ?_
    refine XS.iload X7.here hx rfl (hb hby at_94) rfl ?_
    refine XS.iload X7.here hx rfl (hb hby at_96) rfl ?_
    show Steps p.tables e below (T7.setTop (mkF m 98 #[.val (.int p0), .val (.int p1), .val (.int p2), .val (.ref b194), .val (.int 4), .val (.int 4), .val (.ref a_PROVIDER), .val (.ref a_TERMINATED), .val (.int 1), .val (.int 1)] [(.int 1), (.int 1)])) _
    refine XS.icmpYes X7.here hx rfl (pc0 := 98) (pc' := 103) rfl (hb hby at_98) rfl (by decide) (by decide) (by decide) ?_
    refine XS.iload X7.here hx rfl (hb hby at_103) rfl ?_
    refine XS.ifNo X7.here hx rfl (hb hby at_105) rfl (by decide) ?_
    refine XS.aload X7.here hx rfl (hb hby at_108) rfl rfl ?_
    refine XS.aloadN X7.here hx rfl (hb hby at_110) rfl rfl ?_
    show Steps p.tables e below (T7.setTop (mkF m 111 #[.val (.int p0), .val (.int p1), .val (.int p2), .val (.ref b194), .val (.int 4), .val (.int 4), .val (.ref a_PROVIDER), .val (.ref a_TERMINATED), .val (.int 1), .val (.int 1)] [(.ref b194), (.ref a_TERMINATED)])) _
    refine XS.iload X7.here hx rfl (hb hby at_111) rfl ?_
    show Steps p.tables e below (T7.setTop (mkF m 113 #[.val (.int p0), .val (.int p1), .val (.int p2), .val (.ref b194), .val (.int 4), .val (.int 4), .val (.ref a_PROVIDER), .val (.ref a_TERMINATED), .val (.int 1), .val (.int 1)] [(.int 4), (.ref b194), (.ref a_TERMINATED)])) _
    refine X7.aaload hx (j := (4 : Int32)) (v := (.ref a_TERMINATED)) (by rw [e7]; exact Ar9.1) (State.isArrayOf_alike hZ.alike Ar9.2.1) rfl Ar9.2.2 hin9 hat9 (g := (mkF m 113 #[.val (.int p0), .val (.int p1), .val (.int p2), .val (.ref b194), .val (.int 4), .val (.int 4), .val (.ref a_PROVIDER), .val (.ref a_TERMINATED), .val (.int 1), .val (.int 1)] [(.int 4), (.ref b194), (.ref a_TERMINATED)])) rfl rfl (hb hby at_113) _ ?_
    refine XS.aload X7.here hx rfl (hb hby at_114) rfl rfl ?_
    show Steps p.tables e below (T7.setTop (mkF m 116 #[.val (.int p0), .val (.int p1), .val (.int p2), .val (.ref b194), .val (.int 4), .val (.int 4), .val (.ref a_PROVIDER), .val (.ref a_TERMINATED), .val (.int 1), .val (.int 1)] [(.ref a_PROVIDER), (.ref a_TERMINATED), (.ref a_TERMINATED)])) _
    refine st11.trans ?_
    refine XS.ifYes X11.here hx rfl (pc0 := 119) (pc' := 124) rfl (hb hby at_119) rfl (by decide) (by decide) (by decide) ?_
    refine XS.iconst X11.here hx rfl (hb hby at_124) ?_
    show Steps p.tables e below (T11.setTop (mkF m 125 #[.val (.int p0), .val (.int p1), .val (.int p2), .val (.ref b194), .val (.int 4), .val (.int 4), .val (.ref a_PROVIDER), .val (.ref a_TERMINATED), .val (.int 1), .val (.int 1)] [(.int 1)])) _
    exact retN X11 hx (t := .boolean) Bd.returns (by simp) (hb hby at_125) hr
  · show QT n0 _ T11.heap _
    exact ⟨rfl, N11⟩
set_option maxRecDepth 65536 in
set_option maxHeartbeats 40000000 in
theorem comes_1 {Post : Tables → Env → Array Value → State → Outcome → State → Prop} (hpost : ∀ tb e args s v u, (limb_1_1.after args s (.returned v) u = true ∧ limb_1_2.after args s (.returned v) u = true ∧ True) → ReturnedEndW s (.returned v) u (Jvm.fieldLocs frame_1_writes args s ++ Jvm.arrayLocs frame_1_arrays args s ++ Jvm.staticLocs frame_1_statics s) 16 2176 → Post tb e args s (.returned v) u) :
    ArmFor flags0 classFile x code maxLocals ret World_1 tables_1 room_1 Calls_1 rest_1 Pre_1 Post := by
  intro l hfl _ _ p e ha hc hk s m args below hf hA hF happ hP
  obtain ⟨hcalls, hrest, hpre⟩ := hP
  obtain ⟨-, -, -, hnamed, -, -, -, hat⟩ := (Spec.applies_iff hf).mp happ
  obtain ⟨hg, hn⟩ := and_e (Cond.before_iff.mp (show (Jvm.Cond.and given_1 narrow_1).before args s = true from hpre))
  obtain ⟨k201, k202⟩ := and_e hg
  obtain ⟨k203, k204⟩ := and_e k202
  obtain ⟨k205, k206⟩ := and_e k204
  obtain ⟨w0, w1, w2, rfl⟩ : ∃ w0 w1 w2 : Value, args = #[w0, w1, w2] := by
    have hs : args.size = 3 := by simpa [Cond.value, given_1] using k201
    obtain ⟨L⟩ := args
    match L, hs with
    | [w0, w1, w2], _ => exact ⟨w0, w1, w2, rfl⟩
  have hw := fun d (hd : d ∈ tables_1) => atoms_spec (ws := Jvm.Cond.code x code maxLocals ret :: tables_1) hat d (List.mem_cons_of_mem _ hd)
  have hfit : Fit s := fun {y c} hc i hi => by
    obtain ⟨ha, rfl⟩ := Array.getElem?_eq_some_iff.mp hc
    have q := List.all_eq_true.mp ((Array.all_eq_true_iff_forall_mem.mp hF) _ (Array.getElem_mem ha)) i (List.mem_range.mpr hi)
    simpa [Array.getElem?_eq_getElem hi] using q
  obtain ⟨p0, ei0⟩ := is_v k203
  obtain rfl : w0 = (.int p0) := Option.some.inj ei0
  obtain ⟨p1, ei1⟩ := is_v k205
  obtain rfl : w1 = (.int p1) := Option.some.inj ei1
  obtain ⟨p2, ei2⟩ := is_v k206
  obtain rfl : w2 = (.int p2) := Option.some.inj ei2
  obtain ⟨g1, g2⟩ := and_e hn
  obtain ⟨g3, g4⟩ := and_e g2
  obtain ⟨g5, g6⟩ := and_e g4
  obtain ⟨g7, g8⟩ := and_e g6
  obtain ⟨g9, g10⟩ := and_e g8
  obtain ⟨g11, g12⟩ := and_e g10
  obtain ⟨g13, g14⟩ := and_e g12
  obtain ⟨g15, g16⟩ := and_e g14
  obtain ⟨g17, g18⟩ := and_e g16
  obtain ⟨g19, g20⟩ := and_e g18
  obtain ⟨g21, g22⟩ := and_e g20
  obtain ⟨a_REQUESTED, ev_a_REQUESTED⟩ := exa_v g1
  have S_a_REQUESTED : Sta s s.heap "com/example/offer/offer/model/TransferState" "REQUESTED" "Lcom/example/offer/offer/model/TransferState;" (.ref a_REQUESTED) := Sta.start ev_a_REQUESTED (Or.inr ⟨(tw_3 hw), (tw_4 hw)⟩)
  have E_a_REQUESTED : Exa s s.heap a_REQUESTED "com/example/offer/offer/model/TransferState" := Exa.start ev_a_REQUESTED g1
  obtain ⟨a_STARTED, ev_a_STARTED⟩ := exa_v g3
  have S_a_STARTED : Sta s s.heap "com/example/offer/offer/model/TransferState" "STARTED" "Lcom/example/offer/offer/model/TransferState;" (.ref a_STARTED) := Sta.start ev_a_STARTED (Or.inr ⟨(tw_3 hw), (tw_7 hw)⟩)
  have E_a_STARTED : Exa s s.heap a_STARTED "com/example/offer/offer/model/TransferState" := Exa.start ev_a_STARTED g3
  obtain ⟨a_SUSPENDED, ev_a_SUSPENDED⟩ := exa_v g5
  have S_a_SUSPENDED : Sta s s.heap "com/example/offer/offer/model/TransferState" "SUSPENDED" "Lcom/example/offer/offer/model/TransferState;" (.ref a_SUSPENDED) := Sta.start ev_a_SUSPENDED (Or.inr ⟨(tw_3 hw), (tw_9 hw)⟩)
  have E_a_SUSPENDED : Exa s s.heap a_SUSPENDED "com/example/offer/offer/model/TransferState" := Exa.start ev_a_SUSPENDED g5
  obtain ⟨a_COMPLETED, ev_a_COMPLETED⟩ := exa_v g7
  have S_a_COMPLETED : Sta s s.heap "com/example/offer/offer/model/TransferState" "COMPLETED" "Lcom/example/offer/offer/model/TransferState;" (.ref a_COMPLETED) := Sta.start ev_a_COMPLETED (Or.inr ⟨(tw_3 hw), (tw_11 hw)⟩)
  have E_a_COMPLETED : Exa s s.heap a_COMPLETED "com/example/offer/offer/model/TransferState" := Exa.start ev_a_COMPLETED g7
  obtain ⟨a_TERMINATED, ev_a_TERMINATED⟩ := exa_v g9
  have S_a_TERMINATED : Sta s s.heap "com/example/offer/offer/model/TransferState" "TERMINATED" "Lcom/example/offer/offer/model/TransferState;" (.ref a_TERMINATED) := Sta.start ev_a_TERMINATED (Or.inr ⟨(tw_3 hw), (tw_13 hw)⟩)
  have E_a_TERMINATED : Exa s s.heap a_TERMINATED "com/example/offer/offer/model/TransferState" := Exa.start ev_a_TERMINATED g9
  obtain ⟨a_CONSUMER, ev_a_CONSUMER⟩ := exa_v g11
  have S_a_CONSUMER : Sta s s.heap "com/example/offer/offer/model/Role" "CONSUMER" "Lcom/example/offer/offer/model/Role;" (.ref a_CONSUMER) := Sta.start ev_a_CONSUMER (Or.inr ⟨(tw_16 hw), (tw_17 hw)⟩)
  have E_a_CONSUMER : Exa s s.heap a_CONSUMER "com/example/offer/offer/model/Role" := Exa.start ev_a_CONSUMER g11
  obtain ⟨a_PROVIDER, ev_a_PROVIDER⟩ := exa_v g19
  have S_a_PROVIDER : Sta s s.heap "com/example/offer/offer/model/Role" "PROVIDER" "Lcom/example/offer/offer/model/Role;" (.ref a_PROVIDER) := Sta.start ev_a_PROVIDER (Or.inr ⟨(tw_16 hw), (tw_26 hw)⟩)
  have E_a_PROVIDER : Exa s s.heap a_PROVIDER "com/example/offer/offer/model/Role" := Exa.start ev_a_PROVIDER g19
  have F_ordinal_a_REQUESTED : Fld s s.heap a_REQUESTED "java/lang/Enum" "ordinal" "I" (.int (0 : Int32)) := own_fld ev_a_REQUESTED g13
  have F_ordinal_a_COMPLETED : Fld s s.heap a_COMPLETED "java/lang/Enum" "ordinal" "I" (.int (3 : Int32)) := own_fld ev_a_COMPLETED g15
  have F_ordinal_a_TERMINATED : Fld s s.heap a_TERMINATED "java/lang/Enum" "ordinal" "I" (.int (4 : Int32)) := own_fld ev_a_TERMINATED g17
  have F_ordinal_a_STARTED : Fld s s.heap a_STARTED "java/lang/Enum" "ordinal" "I" (.int (1 : Int32)) := own_fld ev_a_STARTED g21
  have F_ordinal_a_SUSPENDED : Fld s s.heap a_SUSPENDED "java/lang/Enum" "ordinal" "I" (.int (2 : Int32)) := own_fld ev_a_SUSPENDED g22
  have M : MetFree l x (head1 (Jvm.Cond.code x code maxLocals ret :: tables_1) room_1) (fun a U => a = #[(.int p0), (.int p1), (.int p2)] ∧ s.Warmed39 U.vm ∧ U.heap = s.heap) (fun _ _ _ _ _ => True) (fun _ U o U' => ∃ v L, o = .returned v ∧ QT s.heap.size v U'.heap L ∧ ReturnedEndW U o U' L room_1.cells room_1.slots) := by
    rcases own_mod5 p0 with hk | hk | hk | hk | hk
    · by_cases hc0 : (p2 &&& (1 : Int32)) = (0 : Int32)
      · exact rm0_29 l s _ hw tables_1 p0 p1 p2 a_REQUESTED a_STARTED a_SUSPENDED a_COMPLETED a_TERMINATED a_CONSUMER s.heap s.heap.size (Nat.le_refl _) S_a_REQUESTED E_a_REQUESTED S_a_STARTED E_a_STARTED S_a_SUSPENDED E_a_SUSPENDED S_a_COMPLETED E_a_COMPLETED S_a_TERMINATED E_a_TERMINATED hk hc0 S_a_CONSUMER (Fld.ne F_ordinal_a_REQUESTED F_ordinal_a_COMPLETED (by decide)) (Fld.ne F_ordinal_a_REQUESTED F_ordinal_a_TERMINATED (by decide))
      · exact rm0_32 l s _ hw tables_1 p0 p1 p2 a_REQUESTED a_STARTED a_SUSPENDED a_COMPLETED a_TERMINATED a_PROVIDER s.heap s.heap.size (Nat.le_refl _) S_a_REQUESTED E_a_REQUESTED S_a_STARTED E_a_STARTED S_a_SUSPENDED E_a_SUSPENDED S_a_COMPLETED E_a_COMPLETED S_a_TERMINATED E_a_TERMINATED hk hc0 S_a_PROVIDER (Fld.ne F_ordinal_a_REQUESTED F_ordinal_a_COMPLETED (by decide)) (Fld.ne F_ordinal_a_REQUESTED F_ordinal_a_TERMINATED (by decide))
    · by_cases hc0 : (p2 &&& (1 : Int32)) = (0 : Int32)
      · exact rm0_36 l s _ hw tables_1 p0 p1 p2 a_REQUESTED a_STARTED a_SUSPENDED a_COMPLETED a_TERMINATED a_CONSUMER s.heap s.heap.size (Nat.le_refl _) S_a_REQUESTED E_a_REQUESTED S_a_STARTED E_a_STARTED S_a_SUSPENDED E_a_SUSPENDED S_a_COMPLETED E_a_COMPLETED S_a_TERMINATED E_a_TERMINATED hk hc0 S_a_CONSUMER (Fld.ne F_ordinal_a_COMPLETED F_ordinal_a_STARTED (by decide)) (Fld.ne F_ordinal_a_TERMINATED F_ordinal_a_STARTED (by decide))
      · exact rm0_39 l s _ hw tables_1 p0 p1 p2 a_REQUESTED a_STARTED a_SUSPENDED a_COMPLETED a_TERMINATED a_PROVIDER s.heap s.heap.size (Nat.le_refl _) S_a_REQUESTED E_a_REQUESTED S_a_STARTED E_a_STARTED S_a_SUSPENDED E_a_SUSPENDED S_a_COMPLETED E_a_COMPLETED S_a_TERMINATED E_a_TERMINATED hk hc0 S_a_PROVIDER (Fld.ne F_ordinal_a_COMPLETED F_ordinal_a_STARTED (by decide)) (Fld.ne F_ordinal_a_TERMINATED F_ordinal_a_STARTED (by decide))
    · by_cases hc0 : (p2 &&& (1 : Int32)) = (0 : Int32)
      · exact rm0_43 l s _ hw tables_1 p0 p1 p2 a_REQUESTED a_STARTED a_SUSPENDED a_COMPLETED a_TERMINATED a_CONSUMER s.heap s.heap.size (Nat.le_refl _) S_a_REQUESTED E_a_REQUESTED S_a_STARTED E_a_STARTED S_a_SUSPENDED E_a_SUSPENDED S_a_COMPLETED E_a_COMPLETED S_a_TERMINATED E_a_TERMINATED hk hc0 S_a_CONSUMER (Fld.ne F_ordinal_a_COMPLETED F_ordinal_a_SUSPENDED (by decide)) (Fld.ne F_ordinal_a_TERMINATED F_ordinal_a_SUSPENDED (by decide))
      · exact rm0_46 l s _ hw tables_1 p0 p1 p2 a_REQUESTED a_STARTED a_SUSPENDED a_COMPLETED a_TERMINATED a_PROVIDER s.heap s.heap.size (Nat.le_refl _) S_a_REQUESTED E_a_REQUESTED S_a_STARTED E_a_STARTED S_a_SUSPENDED E_a_SUSPENDED S_a_COMPLETED E_a_COMPLETED S_a_TERMINATED E_a_TERMINATED hk hc0 S_a_PROVIDER (Fld.ne F_ordinal_a_COMPLETED F_ordinal_a_SUSPENDED (by decide)) (Fld.ne F_ordinal_a_TERMINATED F_ordinal_a_SUSPENDED (by decide))
    · rcases own_mod5 p1 with hj | hj | hj | hj | hj
      · by_cases hc0 : (p2 &&& (1 : Int32)) = (0 : Int32)
        · exact rm0_57 l s _ hw tables_1 p0 p1 p2 a_REQUESTED a_STARTED a_SUSPENDED a_COMPLETED a_TERMINATED a_CONSUMER s.heap s.heap.size (Nat.le_refl _) S_a_REQUESTED E_a_REQUESTED S_a_STARTED E_a_STARTED S_a_SUSPENDED E_a_SUSPENDED S_a_COMPLETED E_a_COMPLETED S_a_TERMINATED E_a_TERMINATED hk hj hc0 S_a_CONSUMER F_ordinal_a_REQUESTED
        · exact rm0_65 l s _ hw tables_1 p0 p1 p2 a_REQUESTED a_STARTED a_SUSPENDED a_COMPLETED a_TERMINATED a_PROVIDER s.heap s.heap.size (Nat.le_refl _) S_a_REQUESTED E_a_REQUESTED S_a_STARTED E_a_STARTED S_a_SUSPENDED E_a_SUSPENDED S_a_COMPLETED E_a_COMPLETED S_a_TERMINATED E_a_TERMINATED hk hj hc0 S_a_PROVIDER F_ordinal_a_REQUESTED
      · by_cases hc0 : (p2 &&& (1 : Int32)) = (0 : Int32)
        · exact rm0_74 l s _ hw tables_1 p0 p1 p2 a_REQUESTED a_STARTED a_SUSPENDED a_COMPLETED a_TERMINATED a_CONSUMER s.heap s.heap.size (Nat.le_refl _) S_a_REQUESTED E_a_REQUESTED S_a_STARTED E_a_STARTED S_a_SUSPENDED E_a_SUSPENDED S_a_COMPLETED E_a_COMPLETED S_a_TERMINATED E_a_TERMINATED hk hj hc0 S_a_CONSUMER F_ordinal_a_STARTED (Fld.ne F_ordinal_a_REQUESTED F_ordinal_a_COMPLETED (by decide)) (Fld.ne F_ordinal_a_COMPLETED F_ordinal_a_SUSPENDED (by decide))
        · exact rm0_81 l s _ hw tables_1 p0 p1 p2 a_REQUESTED a_STARTED a_SUSPENDED a_COMPLETED a_TERMINATED a_PROVIDER s.heap s.heap.size (Nat.le_refl _) S_a_REQUESTED E_a_REQUESTED S_a_STARTED E_a_STARTED S_a_SUSPENDED E_a_SUSPENDED S_a_COMPLETED E_a_COMPLETED S_a_TERMINATED E_a_TERMINATED hk hj hc0 S_a_PROVIDER F_ordinal_a_STARTED (Fld.ne F_ordinal_a_REQUESTED F_ordinal_a_COMPLETED (by decide)) (Fld.ne F_ordinal_a_COMPLETED F_ordinal_a_SUSPENDED (by decide))
      · by_cases hc0 : (p2 &&& (1 : Int32)) = (0 : Int32)
        · exact rm0_90 l s _ hw tables_1 p0 p1 p2 a_REQUESTED a_STARTED a_SUSPENDED a_COMPLETED a_TERMINATED a_CONSUMER s.heap s.heap.size (Nat.le_refl _) S_a_REQUESTED E_a_REQUESTED S_a_STARTED E_a_STARTED S_a_SUSPENDED E_a_SUSPENDED S_a_COMPLETED E_a_COMPLETED S_a_TERMINATED E_a_TERMINATED hk hj hc0 S_a_CONSUMER F_ordinal_a_SUSPENDED (Fld.ne F_ordinal_a_COMPLETED F_ordinal_a_STARTED (by decide))
        · exact rm0_97 l s _ hw tables_1 p0 p1 p2 a_REQUESTED a_STARTED a_SUSPENDED a_COMPLETED a_TERMINATED a_PROVIDER s.heap s.heap.size (Nat.le_refl _) S_a_REQUESTED E_a_REQUESTED S_a_STARTED E_a_STARTED S_a_SUSPENDED E_a_SUSPENDED S_a_COMPLETED E_a_COMPLETED S_a_TERMINATED E_a_TERMINATED hk hj hc0 S_a_PROVIDER F_ordinal_a_SUSPENDED (Fld.ne F_ordinal_a_COMPLETED F_ordinal_a_STARTED (by decide))
      · by_cases hc0 : (p2 &&& (1 : Int32)) = (0 : Int32)
        · exact rm0_106 l s _ hw tables_1 p0 p1 p2 a_REQUESTED a_STARTED a_SUSPENDED a_COMPLETED a_TERMINATED a_CONSUMER s.heap s.heap.size (Nat.le_refl _) S_a_REQUESTED E_a_REQUESTED S_a_STARTED E_a_STARTED S_a_SUSPENDED E_a_SUSPENDED S_a_COMPLETED E_a_COMPLETED S_a_TERMINATED E_a_TERMINATED hk hj hc0 S_a_CONSUMER F_ordinal_a_COMPLETED (Fld.ne F_ordinal_a_COMPLETED F_ordinal_a_STARTED (by decide))
        · exact rm0_113 l s _ hw tables_1 p0 p1 p2 a_REQUESTED a_STARTED a_SUSPENDED a_COMPLETED a_TERMINATED a_PROVIDER s.heap s.heap.size (Nat.le_refl _) S_a_REQUESTED E_a_REQUESTED S_a_STARTED E_a_STARTED S_a_SUSPENDED E_a_SUSPENDED S_a_COMPLETED E_a_COMPLETED S_a_TERMINATED E_a_TERMINATED hk hj hc0 S_a_PROVIDER F_ordinal_a_COMPLETED (Fld.ne F_ordinal_a_COMPLETED F_ordinal_a_STARTED (by decide))
      · by_cases hc0 : (p2 &&& (1 : Int32)) = (0 : Int32)
        · exact rm0_122 l s _ hw tables_1 p0 p1 p2 a_REQUESTED a_STARTED a_SUSPENDED a_COMPLETED a_TERMINATED a_CONSUMER s.heap s.heap.size (Nat.le_refl _) S_a_REQUESTED E_a_REQUESTED S_a_STARTED E_a_STARTED S_a_SUSPENDED E_a_SUSPENDED S_a_COMPLETED E_a_COMPLETED S_a_TERMINATED E_a_TERMINATED hk hj hc0 S_a_CONSUMER F_ordinal_a_TERMINATED
        · exact rm0_129 l s _ hw tables_1 p0 p1 p2 a_REQUESTED a_STARTED a_SUSPENDED a_COMPLETED a_TERMINATED a_PROVIDER s.heap s.heap.size (Nat.le_refl _) S_a_REQUESTED E_a_REQUESTED S_a_STARTED E_a_STARTED S_a_SUSPENDED E_a_SUSPENDED S_a_COMPLETED E_a_COMPLETED S_a_TERMINATED E_a_TERMINATED hk hj hc0 S_a_PROVIDER F_ordinal_a_TERMINATED
    · rcases own_mod5 p1 with hj | hj | hj | hj | hj
      · by_cases hc0 : (p2 &&& (1 : Int32)) = (0 : Int32)
        · exact rm0_137 l s _ hw tables_1 p0 p1 p2 a_REQUESTED a_STARTED a_SUSPENDED a_COMPLETED a_TERMINATED a_CONSUMER s.heap s.heap.size (Nat.le_refl _) S_a_REQUESTED E_a_REQUESTED S_a_STARTED E_a_STARTED S_a_SUSPENDED E_a_SUSPENDED S_a_COMPLETED E_a_COMPLETED S_a_TERMINATED E_a_TERMINATED hk hj hc0 S_a_CONSUMER (Fld.ne F_ordinal_a_COMPLETED F_ordinal_a_TERMINATED (by decide)) F_ordinal_a_REQUESTED
        · exact rm0_144 l s _ hw tables_1 p0 p1 p2 a_REQUESTED a_STARTED a_SUSPENDED a_COMPLETED a_TERMINATED a_PROVIDER s.heap s.heap.size (Nat.le_refl _) S_a_REQUESTED E_a_REQUESTED S_a_STARTED E_a_STARTED S_a_SUSPENDED E_a_SUSPENDED S_a_COMPLETED E_a_COMPLETED S_a_TERMINATED E_a_TERMINATED hk hj hc0 S_a_PROVIDER (Fld.ne F_ordinal_a_COMPLETED F_ordinal_a_TERMINATED (by decide)) F_ordinal_a_REQUESTED
      · by_cases hc0 : (p2 &&& (1 : Int32)) = (0 : Int32)
        · exact rm0_151 l s _ hw tables_1 p0 p1 p2 a_REQUESTED a_STARTED a_SUSPENDED a_COMPLETED a_TERMINATED a_CONSUMER s.heap s.heap.size (Nat.le_refl _) S_a_REQUESTED E_a_REQUESTED S_a_STARTED E_a_STARTED S_a_SUSPENDED E_a_SUSPENDED S_a_COMPLETED E_a_COMPLETED S_a_TERMINATED E_a_TERMINATED hk hj hc0 S_a_CONSUMER (Fld.ne F_ordinal_a_COMPLETED F_ordinal_a_TERMINATED (by decide)) F_ordinal_a_STARTED (Fld.ne F_ordinal_a_REQUESTED F_ordinal_a_TERMINATED (by decide)) (Fld.ne F_ordinal_a_TERMINATED F_ordinal_a_SUSPENDED (by decide))
        · exact rm0_158 l s _ hw tables_1 p0 p1 p2 a_REQUESTED a_STARTED a_SUSPENDED a_COMPLETED a_TERMINATED a_PROVIDER s.heap s.heap.size (Nat.le_refl _) S_a_REQUESTED E_a_REQUESTED S_a_STARTED E_a_STARTED S_a_SUSPENDED E_a_SUSPENDED S_a_COMPLETED E_a_COMPLETED S_a_TERMINATED E_a_TERMINATED hk hj hc0 S_a_PROVIDER (Fld.ne F_ordinal_a_COMPLETED F_ordinal_a_TERMINATED (by decide)) F_ordinal_a_STARTED (Fld.ne F_ordinal_a_REQUESTED F_ordinal_a_TERMINATED (by decide)) (Fld.ne F_ordinal_a_TERMINATED F_ordinal_a_SUSPENDED (by decide))
      · by_cases hc0 : (p2 &&& (1 : Int32)) = (0 : Int32)
        · exact rm0_165 l s _ hw tables_1 p0 p1 p2 a_REQUESTED a_STARTED a_SUSPENDED a_COMPLETED a_TERMINATED a_CONSUMER s.heap s.heap.size (Nat.le_refl _) S_a_REQUESTED E_a_REQUESTED S_a_STARTED E_a_STARTED S_a_SUSPENDED E_a_SUSPENDED S_a_COMPLETED E_a_COMPLETED S_a_TERMINATED E_a_TERMINATED hk hj hc0 S_a_CONSUMER (Fld.ne F_ordinal_a_COMPLETED F_ordinal_a_TERMINATED (by decide)) F_ordinal_a_SUSPENDED (Fld.ne F_ordinal_a_TERMINATED F_ordinal_a_STARTED (by decide))
        · exact rm0_172 l s _ hw tables_1 p0 p1 p2 a_REQUESTED a_STARTED a_SUSPENDED a_COMPLETED a_TERMINATED a_PROVIDER s.heap s.heap.size (Nat.le_refl _) S_a_REQUESTED E_a_REQUESTED S_a_STARTED E_a_STARTED S_a_SUSPENDED E_a_SUSPENDED S_a_COMPLETED E_a_COMPLETED S_a_TERMINATED E_a_TERMINATED hk hj hc0 S_a_PROVIDER (Fld.ne F_ordinal_a_COMPLETED F_ordinal_a_TERMINATED (by decide)) F_ordinal_a_SUSPENDED (Fld.ne F_ordinal_a_TERMINATED F_ordinal_a_STARTED (by decide))
      · by_cases hc0 : (p2 &&& (1 : Int32)) = (0 : Int32)
        · exact rm0_179 l s _ hw tables_1 p0 p1 p2 a_REQUESTED a_STARTED a_SUSPENDED a_COMPLETED a_TERMINATED a_CONSUMER s.heap s.heap.size (Nat.le_refl _) S_a_REQUESTED E_a_REQUESTED S_a_STARTED E_a_STARTED S_a_SUSPENDED E_a_SUSPENDED S_a_COMPLETED E_a_COMPLETED S_a_TERMINATED E_a_TERMINATED hk hj hc0 S_a_CONSUMER (Fld.ne F_ordinal_a_COMPLETED F_ordinal_a_TERMINATED (by decide)) F_ordinal_a_COMPLETED (Fld.ne F_ordinal_a_TERMINATED F_ordinal_a_STARTED (by decide))
        · exact rm0_186 l s _ hw tables_1 p0 p1 p2 a_REQUESTED a_STARTED a_SUSPENDED a_COMPLETED a_TERMINATED a_PROVIDER s.heap s.heap.size (Nat.le_refl _) S_a_REQUESTED E_a_REQUESTED S_a_STARTED E_a_STARTED S_a_SUSPENDED E_a_SUSPENDED S_a_COMPLETED E_a_COMPLETED S_a_TERMINATED E_a_TERMINATED hk hj hc0 S_a_PROVIDER (Fld.ne F_ordinal_a_COMPLETED F_ordinal_a_TERMINATED (by decide)) F_ordinal_a_COMPLETED (Fld.ne F_ordinal_a_TERMINATED F_ordinal_a_STARTED (by decide))
      · by_cases hc0 : (p2 &&& (1 : Int32)) = (0 : Int32)
        · exact rm0_193 l s _ hw tables_1 p0 p1 p2 a_REQUESTED a_STARTED a_SUSPENDED a_COMPLETED a_TERMINATED a_CONSUMER s.heap s.heap.size (Nat.le_refl _) S_a_REQUESTED E_a_REQUESTED S_a_STARTED E_a_STARTED S_a_SUSPENDED E_a_SUSPENDED S_a_COMPLETED E_a_COMPLETED S_a_TERMINATED E_a_TERMINATED hk hj hc0 S_a_CONSUMER (Fld.ne F_ordinal_a_COMPLETED F_ordinal_a_TERMINATED (by decide)) F_ordinal_a_TERMINATED
        · exact rm0_200 l s _ hw tables_1 p0 p1 p2 a_REQUESTED a_STARTED a_SUSPENDED a_COMPLETED a_TERMINATED a_PROVIDER s.heap s.heap.size (Nat.le_refl _) S_a_REQUESTED E_a_REQUESTED S_a_STARTED E_a_STARTED S_a_SUSPENDED E_a_SUSPENDED S_a_COMPLETED E_a_COMPLETED S_a_TERMINATED E_a_TERMINATED hk hj hc0 S_a_PROVIDER (Fld.ne F_ordinal_a_COMPLETED F_ordinal_a_TERMINATED (by decide)) F_ordinal_a_TERMINATED
  obtain ⟨n, o, h1, h2, h3, _, L, rfl, ⟨rfl, N⟩, hq⟩ := M p e ha hc hk s m _ below hf ((Spec.applies_iff_loose hf).mp happ).1 ⟨rfl, State.Warmed39.refl s, rfl⟩ trivial
  refine ⟨n, _, h1, h2, h3, hpost _ _ _ _ _ _ ⟨Cond.after_iff.mpr rfl, Cond.after_iff.mpr (eq_i res_at (Term.int_eval (1)) rfl), trivial⟩ ⟨hq.1, hq.2.1, hq.2.2.1, (hq.2.2.2.sift fun y hy => Or.inr (N y hy)).mono (by decide) (by decide)⟩⟩
theorem main_1_1 : Claimed_1_1 := comes_1 fun _ _ _ _ _ _ h hF => ⟨h.1, hF⟩
theorem main_1_2 : Claimed_1_2 := comes_1 fun _ _ _ _ _ _ h hF => ⟨h.2.1, hF⟩
end Jvm.Pilot.@@N@@
namespace Jvm.Pilot.@@N@@
open Jvm Jvm.ClassFile Sem Op Lib Jvm.Free Jvm.Stand Jvm.Pilot.@@N@@.Jvm.D
/-! MADE BY PROGRAM (witnessworld.py) out of the Statement's table words and the real class files: 19 classes; the members and pool entries that the words name. The judged class is class 1, her method 1. -/
namespace start1
open Jvm.ClassFile
def u (s : String) : CpInfo := .utf8 (stringToUtf16 s)
/-- a pool by its gaps: so many unusable entries, then the entry; so many at the end -/
def gap : Nat → List CpInfo → List CpInfo
  | 0, r => r
  | n + 1, r => .unusable :: gap n r
def poolList (es : List (Nat × CpInfo)) (last : Nat) : List CpInfo := es.foldr (fun e r => gap e.1 (e.2 :: r)) (gap last [])
def pool (es : List (Nat × CpInfo)) (last : Nat) : Array CpInfo := ⟨poolList es last⟩
def fileOf (pool : Array CpInfo) (this : Nat) (attrs : Array Attribute := #[]) (ms : Array MethodInfo := #[]) (fl : Nat := 33) (sup : Nat := 0) (ifs : Array Nat := #[]) (fds : Array FieldInfo := #[]) : ClassFile where
  minorVersion := 0
  majorVersion := 65
  constantPool := pool
  accessFlags := fl
  thisClass := this
  superClass := sup
  interfaces := ifs
  fields := fds
  methods := ms
  attributes := attrs
def plain (name : String) (sup : Option ClassId) : Class where
  name := name
  kind := .ordinary
  loader := none
  accessFlags := 33
  super := sup
  interfaces := #[]
  cf := none
  fields := #[]
  methods := #[]
  instanceTypes := #[]
  staticTypes := #[]
  resolved := #[]
  callSites := []
  init := .initialized
  statics := none
  mirror := none

def pool0 : Array CpInfo := pool [(5, u "<init>"), (0, u "()V"), (1, .class_ 10), (1, u "java/lang/Object")] 113

def k0m0 : Method := { name := "<init>", desc := "()V", sig := { parameters := [], returnType := none }, accessFlags := 1, code := none }
/-- java/lang/Object -/
def k0 : Class := { plain "java/lang/Object" none with
  accessFlags := 33
  interfaces := #[]
  cf := some (fileOf pool0 8 #[] #[{ accessFlags := 1, nameIndex := 5, descriptorIndex := 6, attributes := #[] }] 33 0 #[] #[])
  fields := #[]
  methods := #[k0m0]
  instanceTypes := #[]
  staticTypes := #[]
  resolved := Array.replicate 124 none
  statics := none }

def pool1 : Array CpInfo := pool [(2, .class_ 4), (1, u "java/lang/Object"), (0, u "<init>"), (0, u "()V"), (0, .class_ 8), (0, u "com/example/offer/offer/model/TransferState"), (0, .fieldref 7 10), (0, .nameAndType 11 12), (0, u "REQUESTED"), (0, u "Lcom/example/offer/offer/model/TransferState;"), (0, .fieldref 7 14), (0, .nameAndType 15 12), (0, u "STARTED"), (0, .fieldref 7 17), (0, .nameAndType 18 12), (0, u "SUSPENDED"), (0, .fieldref 7 20), (0, .nameAndType 21 12), (0, u "COMPLETED"), (0, .fieldref 7 23), (0, .nameAndType 24 12), (0, u "TERMINATED"), (0, .integer 2147483647), (0, .fieldref 27 28), (0, .class_ 29), (0, .nameAndType 30 31), (0, u "com/example/offer/offer/model/Role"), (0, u "PROVIDER"), (0, u "Lcom/example/offer/offer/model/Role;"), (0, .fieldref 27 33), (0, .nameAndType 34 31), (0, u "CONSUMER"), (0, .methodref 7 36), (0, .nameAndType 37 38), (0, u "isFinal"), (0, u "()Z"), (0, .methodref 7 40), (0, .nameAndType 41 42), (0, u "canMoveTo"), (0, u "(Lcom/example/offer/offer/model/TransferState;Lcom/example/offer/offer/model/Role;)Z"), (0, .class_ 44), (0, u "com/example/offer/offer/model/TransferStateIsFinalPinLaw"), (2, u "law"), (0, u "(III)Z")] 5

def k1m0 : Method := { name := "<init>", desc := "()V", sig := { parameters := [], returnType := none }, accessFlags := 1, code := none }
def k1c1 : Code := { maxStack := 4, maxLocals := 10, code := code, exceptionTable := #[], attributes := #[] }
def k1m1 : Method := { name := "law", desc := "(III)Z", sig := { parameters := [.int, .int, .int], returnType := some .boolean }, accessFlags := 9, code := some k1c1 }
/-- com/example/offer/offer/model/TransferStateIsFinalPinLaw -/
def k1 : Class := { plain "com/example/offer/offer/model/TransferStateIsFinalPinLaw" (some 0) with
  accessFlags := 49
  interfaces := #[]
  cf := some (fileOf pool1 43 #[] #[{ accessFlags := 1, nameIndex := 5, descriptorIndex := 6, attributes := #[] }, { accessFlags := 9, nameIndex := 47, descriptorIndex := 48, attributes := #[] }] 49 2 #[] #[])
  fields := #[]
  methods := #[k1m0, k1m1]
  instanceTypes := #[]
  staticTypes := #[]
  resolved := Array.replicate 54 none
  statics := none }

def pool2 : Array CpInfo := pool [(1, .class_ 2), (0, u "java/lang/constant/Constable"), (0, .class_ 4), (0, u "java/lang/Object")] 6

/-- java/lang/constant/Constable -/
def k2 : Class := { plain "java/lang/constant/Constable" (some 0) with
  accessFlags := 1537
  interfaces := #[]
  cf := some (fileOf pool2 1 #[] #[] 1537 3 #[] #[])
  fields := #[]
  methods := #[]
  instanceTypes := #[]
  staticTypes := #[]
  resolved := Array.replicate 11 none
  statics := none }

def pool3 : Array CpInfo := pool [(1, .class_ 2), (0, u "java/lang/Comparable"), (0, .class_ 4), (0, u "java/lang/Object")] 7

/-- java/lang/Comparable -/
def k3 : Class := { plain "java/lang/Comparable" (some 0) with
  accessFlags := 1537
  interfaces := #[]
  cf := some (fileOf pool3 1 #[] #[] 1537 3 #[] #[])
  fields := #[]
  methods := #[]
  instanceTypes := #[]
  staticTypes := #[]
  resolved := Array.replicate 12 none
  statics := none }

def pool4 : Array CpInfo := pool [(1, .class_ 2), (0, u "java/io/Serializable"), (0, .class_ 4), (0, u "java/lang/Object")] 2

/-- java/io/Serializable -/
def k4 : Class := { plain "java/io/Serializable" (some 0) with
  accessFlags := 1537
  interfaces := #[]
  cf := some (fileOf pool4 1 #[] #[] 1537 3 #[] #[])
  fields := #[]
  methods := #[]
  instanceTypes := #[]
  staticTypes := #[]
  resolved := Array.replicate 7 none
  statics := none }

def pool5 : Array CpInfo := pool [(2, .class_ 4), (1, u "java/lang/Enum"), (0, u "name"), (0, u "Ljava/lang/String;"), (0, .fieldref 2 8), (0, .nameAndType 9 10), (0, u "ordinal"), (0, u "I"), (1, .class_ 14), (1, u "java/lang/Object"), (4, u "hash"), (86, .class_ 108), (1, u "java/lang/Enum$EnumDesc"), (2, .class_ 112), (0, u "java/lang/constant/Constable"), (0, .class_ 114), (0, u "java/lang/Comparable"), (0, .class_ 116), (0, u "java/io/Serializable"), (9, u "()I")] 77

def k5c0 : Code := { maxStack := 1, maxLocals := 1, code := jdk_37_method_2_code, exceptionTable := #[], attributes := #[] }
def k5m0 : Method := { name := "ordinal", desc := "()I", sig := { parameters := [], returnType := some .int }, accessFlags := 17, code := some k5c0 }
/-- java/lang/Enum -/
def k5 : Class := { plain "java/lang/Enum" (some 0) with
  accessFlags := 1057
  interfaces := #[2, 3, 4]
  cf := some (fileOf pool5 2 #[.nestMembers #[106]] #[{ accessFlags := 17, nameIndex := 9, descriptorIndex := 126, attributes := #[] }] 1057 12 #[111, 113, 115] #[{ accessFlags := 18, nameIndex := 5, descriptorIndex := 6, attributes := #[] }, { accessFlags := 18, nameIndex := 9, descriptorIndex := 10, attributes := #[] }, { accessFlags := 2, nameIndex := 19, descriptorIndex := 10, attributes := #[] }])
  fields := #[{ name := "name", type := (.object "java/lang/String"), accessFlags := 18, slot := 0, constantValue := 0 }, { name := "ordinal", type := .int, accessFlags := 18, slot := 1, constantValue := 0 }, { name := "hash", type := .int, accessFlags := 2, slot := 2, constantValue := 0 }]
  methods := #[k5m0]
  instanceTypes := #[(.object "java/lang/String"), .int, .int]
  staticTypes := #[]
  resolved := Array.replicate 204 none
  statics := none }

def pool6 : Array CpInfo := pool [(41, .class_ 42), (0, u "com/example/offer/offer/model/ProcessState"), (0, .class_ 44), (0, u "java/lang/Object")] 36

/-- com/example/offer/offer/model/ProcessState -/
def k6 : Class := { plain "com/example/offer/offer/model/ProcessState" (some 0) with
  accessFlags := 1537
  interfaces := #[]
  cf := some (fileOf pool6 41 #[] #[] 1537 43 #[] #[])
  fields := #[]
  methods := #[]
  instanceTypes := #[]
  staticTypes := #[]
  resolved := Array.replicate 81 none
  statics := none }

def pool7 : Array CpInfo := pool [(1, .class_ 2), (0, u "com/example/offer/offer/model/TransferState"), (0, .fieldref 1 4), (0, .nameAndType 5 6), (0, u "REQUESTED"), (0, u "Lcom/example/offer/offer/model/TransferState;"), (0, .fieldref 1 8), (0, .nameAndType 9 6), (0, u "STARTED"), (0, .fieldref 1 11), (0, .nameAndType 12 6), (0, u "SUSPENDED"), (0, .fieldref 1 14), (0, .nameAndType 15 6), (0, u "COMPLETED"), (0, .fieldref 1 17), (0, .nameAndType 18 6), (0, u "TERMINATED"), (2, u "$VALUES"), (0, u "[Lcom/example/offer/offer/model/TransferState;"), (6, .class_ 31), (1, u "java/lang/Enum"), (6, .string 39), (0, u "next"), (0, .methodref 41 42), (0, .class_ 43), (0, .nameAndType 44 45), (0, u "java/util/Objects"), (0, u "requireNonNull"), (0, u "(Ljava/lang/Object;Ljava/lang/String;)Ljava/lang/Object;"), (0, .string 47), (0, u "by"), (0, .methodref 1 49), (0, .nameAndType 50 51), (0, u "ordinal"), (0, u "()I"), (11, .methodref 1 64), (0, .nameAndType 65 66), (0, u "isFinal"), (0, u "()Z"), (2, u "canMoveTo"), (0, u "(Lcom/example/offer/offer/model/TransferState;Lcom/example/offer/offer/model/Role;)Z"), (10, .class_ 82), (0, u "com/example/offer/offer/model/ProcessState")] 13

def k7c0 : Code := { maxStack := 2, maxLocals := 1, code := prog_6_method_4_code, exceptionTable := #[], attributes := #[] }
def k7m0 : Method := { name := "isFinal", desc := "()Z", sig := { parameters := [], returnType := some .boolean }, accessFlags := 1, code := some k7c0 }
def k7c1 : Code := { maxStack := 4, maxLocals := 3, code := prog_6_method_5_code, exceptionTable := #[], attributes := #[] }
def k7m1 : Method := { name := "canMoveTo", desc := "(Lcom/example/offer/offer/model/TransferState;Lcom/example/offer/offer/model/Role;)Z", sig := { parameters := [(.object "com/example/offer/offer/model/TransferState"), (.object "com/example/offer/offer/model/Role")], returnType := some .boolean }, accessFlags := 1, code := some k7c1 }
/-- com/example/offer/offer/model/TransferState -/
def k7 : Class := { plain "com/example/offer/offer/model/TransferState" (some 5) with
  accessFlags := 16433
  interfaces := #[6]
  cf := some (fileOf pool7 1 #[] #[{ accessFlags := 1, nameIndex := 65, descriptorIndex := 66, attributes := #[] }, { accessFlags := 1, nameIndex := 69, descriptorIndex := 70, attributes := #[] }] 16433 29 #[81] #[{ accessFlags := 16409, nameIndex := 5, descriptorIndex := 6, attributes := #[] }, { accessFlags := 16409, nameIndex := 9, descriptorIndex := 6, attributes := #[] }, { accessFlags := 16409, nameIndex := 12, descriptorIndex := 6, attributes := #[] }, { accessFlags := 16409, nameIndex := 15, descriptorIndex := 6, attributes := #[] }, { accessFlags := 16409, nameIndex := 18, descriptorIndex := 6, attributes := #[] }, { accessFlags := 4122, nameIndex := 21, descriptorIndex := 22, attributes := #[] }])
  fields := #[{ name := "REQUESTED", type := (.object "com/example/offer/offer/model/TransferState"), accessFlags := 16409, slot := 0, constantValue := 0 }, { name := "STARTED", type := (.object "com/example/offer/offer/model/TransferState"), accessFlags := 16409, slot := 1, constantValue := 0 }, { name := "SUSPENDED", type := (.object "com/example/offer/offer/model/TransferState"), accessFlags := 16409, slot := 2, constantValue := 0 }, { name := "COMPLETED", type := (.object "com/example/offer/offer/model/TransferState"), accessFlags := 16409, slot := 3, constantValue := 0 }, { name := "TERMINATED", type := (.object "com/example/offer/offer/model/TransferState"), accessFlags := 16409, slot := 4, constantValue := 0 }, { name := "$VALUES", type := (.array (.object "com/example/offer/offer/model/TransferState")), accessFlags := 4122, slot := 5, constantValue := 0 }]
  methods := #[k7m0, k7m1]
  instanceTypes := #[(.object "java/lang/String"), .int, .int]
  staticTypes := #[(.object "com/example/offer/offer/model/TransferState"), (.object "com/example/offer/offer/model/TransferState"), (.object "com/example/offer/offer/model/TransferState"), (.object "com/example/offer/offer/model/TransferState"), (.object "com/example/offer/offer/model/TransferState"), (.array (.object "com/example/offer/offer/model/TransferState"))]
  resolved := Array.replicate 96 none
  statics := some 0 }

def pool8 : Array CpInfo := pool [(1, .class_ 2), (0, u "com/example/offer/offer/model/Role"), (2, u "PROVIDER"), (0, u "Lcom/example/offer/offer/model/Role;"), (2, u "CONSUMER"), (2, u "$VALUES"), (0, u "[Lcom/example/offer/offer/model/Role;"), (6, .class_ 22), (1, u "java/lang/Enum")] 27

/-- com/example/offer/offer/model/Role -/
def k8 : Class := { plain "com/example/offer/offer/model/Role" (some 5) with
  accessFlags := 16433
  interfaces := #[]
  cf := some (fileOf pool8 1 #[] #[] 16433 20 #[] #[{ accessFlags := 16409, nameIndex := 5, descriptorIndex := 6, attributes := #[] }, { accessFlags := 16409, nameIndex := 9, descriptorIndex := 6, attributes := #[] }, { accessFlags := 4122, nameIndex := 12, descriptorIndex := 13, attributes := #[] }])
  fields := #[{ name := "PROVIDER", type := (.object "com/example/offer/offer/model/Role"), accessFlags := 16409, slot := 0, constantValue := 0 }, { name := "CONSUMER", type := (.object "com/example/offer/offer/model/Role"), accessFlags := 16409, slot := 1, constantValue := 0 }, { name := "$VALUES", type := (.array (.object "com/example/offer/offer/model/Role")), accessFlags := 4122, slot := 2, constantValue := 0 }]
  methods := #[]
  instanceTypes := #[(.object "java/lang/String"), .int, .int]
  staticTypes := #[(.object "com/example/offer/offer/model/Role"), (.object "com/example/offer/offer/model/Role"), (.array (.object "com/example/offer/offer/model/Role"))]
  resolved := Array.replicate 50 none
  statics := some 1 }

def pool9 : Array CpInfo := pool [(2, .class_ 4), (1, u "java/lang/CharSequence"), (42, .class_ 48), (0, u "java/lang/CharSequence$1CodePointIterator"), (10, .class_ 60), (0, u "java/lang/CharSequence$1CharIterator"), (5, .class_ 67), (0, u "java/lang/Object")] 63

/-- java/lang/CharSequence -/
def k9 : Class := { plain "java/lang/CharSequence" (some 0) with
  accessFlags := 1537
  interfaces := #[]
  cf := some (fileOf pool9 2 #[.nestMembers #[47, 59]] #[] 1537 66 #[] #[])
  fields := #[]
  methods := #[]
  instanceTypes := #[]
  staticTypes := #[]
  resolved := Array.replicate 131 none
  statics := none }

def pool10 : Array CpInfo := pool [(1, .class_ 2), (0, u "java/lang/constant/ConstantDesc"), (0, .class_ 4), (0, u "java/lang/Object")] 32

/-- java/lang/constant/ConstantDesc -/
def k10 : Class := { plain "java/lang/constant/ConstantDesc" (some 0) with
  accessFlags := 1537
  interfaces := #[]
  cf := some (fileOf pool10 1 #[] #[] 1537 3 #[] #[])
  fields := #[]
  methods := #[]
  instanceTypes := #[]
  staticTypes := #[]
  resolved := Array.replicate 37 none
  statics := none }

def pool11 : Array CpInfo := pool [(2, .class_ 4), (1, u "java/lang/Object"), (0, u "<init>"), (0, u "()V"), (3, .class_ 12), (1, u "java/lang/String"), (0, u "value"), (0, u "[B"), (2, u "coder"), (0, u "B"), (2, u "hash"), (0, u "I"), (2, u "hashIsZero"), (0, u "Z"), (13, u "COMPACT_STRINGS"), (534, .class_ 576), (0, u "java/lang/CharSequence"), (22, u "CASE_INSENSITIVE_ORDER"), (0, u "Ljava/util/Comparator;"), (500, u "serialPersistentFields"), (0, u "[Ljava/io/ObjectStreamField;"), (0, .class_ 1104), (0, u "java/lang/String$CaseInsensitiveComparator"), (1, .class_ 1107), (0, u "java/io/Serializable"), (0, .class_ 1109), (0, u "java/lang/Comparable"), (0, .class_ 1111), (0, u "java/lang/constant/Constable"), (0, .class_ 1113), (0, u "java/lang/constant/ConstantDesc"), (2, u "serialVersionUID"), (0, u "J"), (3, u "REPL"), (0, u "C"), (2, u "LATIN1"), (1, u "UTF16")] 323

def k11m0 : Method := { name := "<init>", desc := "()V", sig := { parameters := [], returnType := none }, accessFlags := 1, code := none }
/-- java/lang/String -/
def k11 : Class := { plain "java/lang/String" (some 0) with
  accessFlags := 49
  interfaces := #[4, 3, 9, 2, 10]
  cf := some (fileOf pool11 10 #[.nestMembers #[1103]] #[{ accessFlags := 1, nameIndex := 5, descriptorIndex := 6, attributes := #[] }] 49 2 #[1106, 1108, 575, 1110, 1112] #[{ accessFlags := 18, nameIndex := 13, descriptorIndex := 14, attributes := #[] }, { accessFlags := 18, nameIndex := 17, descriptorIndex := 18, attributes := #[] }, { accessFlags := 2, nameIndex := 21, descriptorIndex := 22, attributes := #[] }, { accessFlags := 2, nameIndex := 25, descriptorIndex := 26, attributes := #[] }, { accessFlags := 26, nameIndex := 1116, descriptorIndex := 1117, attributes := #[] }, { accessFlags := 24, nameIndex := 40, descriptorIndex := 26, attributes := #[] }, { accessFlags := 26, nameIndex := 1101, descriptorIndex := 1102, attributes := #[] }, { accessFlags := 26, nameIndex := 1121, descriptorIndex := 1122, attributes := #[] }, { accessFlags := 25, nameIndex := 599, descriptorIndex := 600, attributes := #[] }, { accessFlags := 24, nameIndex := 1125, descriptorIndex := 18, attributes := #[] }, { accessFlags := 24, nameIndex := 1127, descriptorIndex := 18, attributes := #[] }])
  fields := #[{ name := "value", type := (.array .byte), accessFlags := 18, slot := 0, constantValue := 0 }, { name := "coder", type := .byte, accessFlags := 18, slot := 1, constantValue := 0 }, { name := "hash", type := .int, accessFlags := 2, slot := 2, constantValue := 0 }, { name := "hashIsZero", type := .boolean, accessFlags := 2, slot := 3, constantValue := 0 }, { name := "serialVersionUID", type := .long, accessFlags := 26, slot := 0, constantValue := 0 }, { name := "COMPACT_STRINGS", type := .boolean, accessFlags := 24, slot := 1, constantValue := 0 }, { name := "serialPersistentFields", type := (.array (.object "java/io/ObjectStreamField")), accessFlags := 26, slot := 2, constantValue := 0 }, { name := "REPL", type := .char, accessFlags := 26, slot := 3, constantValue := 0 }, { name := "CASE_INSENSITIVE_ORDER", type := (.object "java/util/Comparator"), accessFlags := 25, slot := 4, constantValue := 0 }, { name := "LATIN1", type := .byte, accessFlags := 24, slot := 5, constantValue := 0 }, { name := "UTF16", type := .byte, accessFlags := 24, slot := 6, constantValue := 0 }]
  methods := #[k11m0]
  instanceTypes := #[(.array .byte), .byte, .int, .boolean]
  staticTypes := #[.long, .boolean, (.array (.object "java/io/ObjectStreamField")), .char, (.object "java/util/Comparator"), .byte, .byte]
  resolved := Array.replicate 1451 none
  statics := none }

def pool12 : Array CpInfo := pool [(2, .class_ 4), (1, u "java/lang/Object"), (0, u "<init>"), (0, u "()V"), (35, .class_ 44), (1, u "java/util/Objects"), (0, u "requireNonNull"), (48, u "(Ljava/lang/Object;Ljava/lang/String;)Ljava/lang/Object;")] 89

def k12m0 : Method := { name := "<init>", desc := "()V", sig := { parameters := [], returnType := none }, accessFlags := 2, code := none }
def k12c1 : Code := { maxStack := 3, maxLocals := 2, code := jdk_31_method_11_code, exceptionTable := #[], attributes := #[] }
def k12m1 : Method := { name := "requireNonNull", desc := "(Ljava/lang/Object;Ljava/lang/String;)Ljava/lang/Object;", sig := { parameters := [(.object "java/lang/Object"), (.object "java/lang/String")], returnType := some (.object "java/lang/Object") }, accessFlags := 9, code := some k12c1 }
/-- java/util/Objects -/
def k12 : Class := { plain "java/util/Objects" (some 0) with
  accessFlags := 49
  interfaces := #[]
  cf := some (fileOf pool12 42 #[] #[{ accessFlags := 2, nameIndex := 5, descriptorIndex := 6, attributes := #[] }, { accessFlags := 9, nameIndex := 45, descriptorIndex := 94, attributes := #[] }] 49 2 #[] #[])
  fields := #[]
  methods := #[k12m0, k12m1]
  instanceTypes := #[]
  staticTypes := #[]
  resolved := Array.replicate 184 none
  statics := none }

def pool13 : Array CpInfo := pool [(1, u "java/lang/Cloneable"), (0, .class_ 1), (0, u "java/lang/Object"), (0, .class_ 3)] 3

/-- java/lang/Cloneable -/
def k13 : Class := { plain "java/lang/Cloneable" (some 0) with
  accessFlags := 1537
  interfaces := #[]
  cf := some (fileOf pool13 2 #[] #[] 1537 4 #[] #[])
  fields := #[]
  methods := #[]
  instanceTypes := #[]
  staticTypes := #[]
  resolved := Array.replicate 8 none
  statics := none }

/-- the primitive byte -/
def k14 : Class := { plain "byte" none with kind := .primitive 'B', accessFlags := 0x411 }
/-- [B -/
def k15 : Class := { plain "[B" (some 0) with kind := .array 14 .byte, interfaces := #[13, 4], accessFlags := 1041 }

/-- the primitive int -/
def k16 : Class := { plain "int" none with kind := .primitive 'I', accessFlags := 0x411 }
/-- [I -/
def k17 : Class := { plain "[I" (some 0) with kind := .array 16 .int, interfaces := #[13, 4], accessFlags := 1041 }

/-- [Lcom/example/offer/offer/model/TransferState; -/
def k18 : Class := { plain "[Lcom/example/offer/offer/model/TransferState;" (some 0) with kind := .array 7 (.object "com/example/offer/offer/model/TransferState"), interfaces := #[13, 4], accessFlags := 1041 }

def heap : Heap := #[{ cls := 7, slots := #[.ref 2, .ref 3, .ref 4, .ref 5, .ref 6, .null], vm := .statics 7 },
  { cls := 8, slots := #[.ref 8, .ref 7, .null], vm := .statics 8 },
  { cls := 7, slots := #[.null, .int 0, .int 0], vm := .none },
  { cls := 7, slots := #[.null, .int 1, .int 0], vm := .none },
  { cls := 7, slots := #[.null, .int 2, .int 0], vm := .none },
  { cls := 7, slots := #[.null, .int 3, .int 0], vm := .none },
  { cls := 7, slots := #[.null, .int 4, .int 0], vm := .none },
  { cls := 8, slots := #[.null, .int 0, .int 0], vm := .none },
  { cls := 8, slots := #[.null, .int 0, .int 0], vm := .none }]
def classes : Array Class := #[k0, k1, k2, k3, k4, k5, k6, k7, k8, k9, k10, k11, k12, k13, k14, k15, k16, k17, k18]
def interned : List (Array UInt16 × Addr) := []
def slotsUsed : Nat := 30
def theMethod : MethodId := ⟨1, 1⟩
def args0 : Array Value := #[.int 3, .int 1, .int 1]
def aboutOver (below : List Frame) : State where
  vm := { classes := classes, interned := interned.toArray }
  heap := heap
  slotsUsed := slotsUsed
  threads := #[{ frames := .invoking theMethod args0 :: below }]
def below0 : List Frame := [.native { method := ⟨0, 0⟩, args := #[] }]
def about1 : State := aboutOver below0
def p0 : Program := .bare "" "" ""
def e0 : Env := launch0.env 0 0 0
theorem w_frames : about1.frames = Frame.invoking theMethod args0 :: below0 := rfl
set_option maxRecDepth 65536 in
theorem w_args : argsFit about1.vm theMethod args0 = true := by decide +kernel
set_option maxRecDepth 65536 in
theorem w_heap : heapFits about1 = true := by decide +kernel
set_option maxRecDepth 65536 in
theorem w_runnable : about1.curStatus? = some .runnable := by decide +kernel
set_option maxRecDepth 65536 in
theorem w_alone : about1.alone = true := by decide +kernel
set_option maxRecDepth 65536 in
theorem w_named : about1.methodNamed? x = some theMethod := by decide +kernel
set_option maxRecDepth 65536 in
theorem w_hears : about1.hears theMethod below0 = true := by decide +kernel
set_option maxRecDepth 65536 in
theorem w_ripe : about1.ripe theMethod args0 below0 = true := by decide +kernel
theorem w_running : about1.status = .running := rfl
set_option maxRecDepth 65536 in
theorem w_room : about1.hasRoom e0.platform room_1 = true :=
  launch0.hasRoom_least _ room_1 (by decide +kernel) (by decide +kernel) (by decide +kernel) (by decide +kernel) (by decide +kernel) (by decide +kernel)
theorem allAtoms_all (ts : List Jvm.Cond) (a : Array Jvm.Value) (st : Jvm.State) : (allAtoms ts).before a st = ts.all (fun c => c.before a st) := by
  induction ts with
  | nil => rfl
  | cons c t ih =>
    show (Jvm.Cond.and c (allAtoms t)).before a st = _
    rw [Jvm.Cond.before_and, ih, List.all_cons]
def words1 : List Jvm.Cond := Jvm.Cond.code x code maxLocals ret :: tables_1
/-- a 'code' word, met by the world's own term for the bytes: nothing is compared byte by byte -/
theorem code_word {y : MethodName} {bytes : ByteArray} {mx : Nat} {rt : Option FieldType} {a : Array Value} {s : State} {m : MethodId} {meth : Method} {c : Code} (h1 : s.methodNamed? y = some m) (h2 : s.vm.method? m = some meth) (h3 : meth.code = some c) (h4 : c.code = bytes)
    (h5 : (c.maxLocals == mx && c.exceptionTable.isEmpty && decide (c.maxStack ≤ mostOperands) && decide (meth.sig.returnType = rt) && !meth.locks && decide (parseMethodDescriptor y.desc = some meth.sig)) = true) : (Jvm.Cond.code y bytes mx rt).before a s = true := by
  simp only [Bool.and_eq_true, beq_iff_eq, Bool.not_eq_true', decide_eq_true_eq] at h5
  obtain ⟨⟨⟨⟨⟨g1, g2⟩, g3⟩, g4⟩, g5⟩, g6⟩ := h5
  simp [Cond.before, Cond.holds, Cond.value, h1, h2, h3, h4, g1, g2, g3, g4, g5, g6]
def isCode : Jvm.Cond → Bool
  | .code _ _ _ _ => true
  | _ => false
theorem all_split {L : List Jvm.Cond} {P : Jvm.Cond → Bool} (h1 : L.all (fun c => isCode c || P c) = true) (h2 : ∀ c ∈ L.filter isCode, P c = true) : L.all P = true := by
  refine List.all_eq_true.mpr fun c hc => ?_
  have h := List.all_eq_true.mp h1 c hc
  rcases Bool.eq_false_or_eq_true (isCode c) with hi | hi
  · exact h2 c (List.mem_filter.mpr ⟨hc, hi⟩)
  · simpa [hi] using h
set_option maxRecDepth 65536 in
theorem w_c0 : (Jvm.Cond.code x code maxLocals ret).before args0 about1 = true := code_word (m := ⟨1, 1⟩) (meth := k1m1) (c := k1c1) (by decide +kernel) rfl rfl rfl (by decide +kernel)
set_option maxRecDepth 65536 in
theorem w_c1 : (Jvm.Cond.code ({ cls := "com/example/offer/offer/model/TransferState", name := "isFinal", desc := "()Z" } : Jvm.MethodName) prog_6_method_4_code (1 : Nat) (Option.some Jvm.ClassFile.FieldType.boolean)).before args0 about1 = true := code_word (m := ⟨7, 0⟩) (meth := k7m0) (c := k7c0) (by decide +kernel) rfl rfl rfl (by decide +kernel)
set_option maxRecDepth 65536 in
theorem w_c2 : (Jvm.Cond.code ({ cls := "com/example/offer/offer/model/TransferState", name := "canMoveTo", desc := "(Lcom/example/offer/offer/model/TransferState;Lcom/example/offer/offer/model/Role;)Z" } : Jvm.MethodName) prog_6_method_5_code (3 : Nat) (Option.some Jvm.ClassFile.FieldType.boolean)).before args0 about1 = true := code_word (m := ⟨7, 1⟩) (meth := k7m1) (c := k7c1) (by decide +kernel) rfl rfl rfl (by decide +kernel)
set_option maxRecDepth 65536 in
theorem w_c3 : (Jvm.Cond.code ({ cls := "java/util/Objects", name := "requireNonNull", desc := "(Ljava/lang/Object;Ljava/lang/String;)Ljava/lang/Object;" } : Jvm.MethodName) jdk_31_method_11_code (2 : Nat) (Option.some (Jvm.ClassFile.FieldType.object "java/lang/Object"))).before args0 about1 = true := code_word (m := ⟨12, 1⟩) (meth := k12m1) (c := k12c1) (by decide +kernel) rfl rfl rfl (by decide +kernel)
set_option maxRecDepth 65536 in
theorem w_c4 : (Jvm.Cond.code ({ cls := "java/lang/Enum", name := "ordinal", desc := "()I" } : Jvm.MethodName) jdk_37_method_2_code (1 : Nat) (Option.some Jvm.ClassFile.FieldType.int)).before args0 about1 = true := code_word (m := ⟨5, 0⟩) (meth := k5m0) (c := k5c0) (by decide +kernel) rfl rfl rfl (by decide +kernel)
def codes1 : List Jvm.Cond := [Jvm.Cond.code x code maxLocals ret, Jvm.Cond.code ({ cls := "com/example/offer/offer/model/TransferState", name := "isFinal", desc := "()Z" } : Jvm.MethodName) prog_6_method_4_code (1 : Nat) (Option.some Jvm.ClassFile.FieldType.boolean), Jvm.Cond.code ({ cls := "com/example/offer/offer/model/TransferState", name := "canMoveTo", desc := "(Lcom/example/offer/offer/model/TransferState;Lcom/example/offer/offer/model/Role;)Z" } : Jvm.MethodName) prog_6_method_5_code (3 : Nat) (Option.some Jvm.ClassFile.FieldType.boolean), Jvm.Cond.code ({ cls := "java/util/Objects", name := "requireNonNull", desc := "(Ljava/lang/Object;Ljava/lang/String;)Ljava/lang/Object;" } : Jvm.MethodName) jdk_31_method_11_code (2 : Nat) (Option.some (Jvm.ClassFile.FieldType.object "java/lang/Object")), Jvm.Cond.code ({ cls := "java/lang/Enum", name := "ordinal", desc := "()I" } : Jvm.MethodName) jdk_37_method_2_code (1 : Nat) (Option.some Jvm.ClassFile.FieldType.int)]
set_option maxRecDepth 65536 in
theorem codes_eq : words1.filter isCode = codes1 := rfl
theorem w_codes : ∀ c ∈ words1.filter isCode, c.before args0 about1 = true := by
  rw [codes_eq]
  intro c hc
  simp only [codes1, List.mem_cons, List.not_mem_nil, or_false] at hc
  rcases hc with rfl | rfl | rfl | rfl | rfl
  · exact w_c0
  · exact w_c1
  · exact w_c2
  · exact w_c3
  · exact w_c4
set_option maxRecDepth 65536 in
theorem w_t1 : (words1.take 24).all (fun c => isCode c || c.before args0 about1) = true := by decide +kernel
set_option maxRecDepth 65536 in
theorem w_t2 : ((words1.drop 24).take 24).all (fun c => isCode c || c.before args0 about1) = true := by decide +kernel
set_option maxRecDepth 65536 in
theorem w_t3 : ((words1.drop 24).drop 24).all (fun c => isCode c || c.before args0 about1) = true := by decide +kernel
theorem w_tables : (allAtoms (Jvm.Cond.code x code maxLocals ret :: tables_1)).before args0 about1 = true := by
  rw [allAtoms_all]
  show words1.all (fun c => c.before args0 about1) = true
  refine all_split ?_ w_codes
  rw [← List.take_append_drop 24 words1, List.all_append, w_t1, ← List.take_append_drop 24 (words1.drop 24), List.all_append, w_t2, w_t3]
  rfl
set_option maxRecDepth 65536 in
theorem w_case : (Jvm.Cond.and given_1 narrow_1).before args0 about1 = true := by decide +kernel
theorem w_applies : (headSpec (Jvm.Cond.code x code maxLocals ret :: tables_1) room_1).applies x e0.platform about1 = true :=
  (Spec.applies_iff w_frames).mpr ⟨w_running, w_runnable, w_alone, w_named, w_hears, w_ripe, w_room, w_tables⟩
theorem atStart : AtStart classFile x code maxLocals ret World_1 tables_1 room_1 Calls_1 rest_1 Pre_1 launch0 p0 e0 about1 theMethod args0 below0 :=
  ⟨lists_1, trivial, launch0.admits_env _ _ _, launch0.least_env, fairChoices_fair.cas, fairChoices_fair.clock, w_frames, w_args, w_heap, w_applies, trivial, trivial, w_case⟩
end start1
theorem witness_1 : WitnessClaimed_1 := ⟨start1.p0, start1.e0, start1.about1, start1.theMethod, start1.args0, start1.below0, start1.atStart⟩
end Jvm.Pilot.@@N@@
