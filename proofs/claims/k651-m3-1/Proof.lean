import JvmDerived
import JvmDerived.Pilot.@@N@@Statement
import JvmDerived.Pilot.@@N@@Code
set_option linter.unusedVariables false
set_option linter.unusedSimpArgs false
namespace Jvm.RoadKit
open Sem ClassFile Op Lib Jvm.Stand Jvm.Free Jvm.LawKit
section New
variable {p : Program} {l : Launch} {e : Env} {R : Room} {s : State} {m : MethodId} {args : Array Value} {below : List Frame} {meth : Method} {c : Code} {T : State} {locs : List Loc} {cells slots : Nat}
theorem retI (X : Stand p l e R s m args below meth c T locs cells slots) (hx : p.tables.exec = Jvm.exec) {pc : Nat} {Ls : Array Slot} {z : Int32} {rest : List Value} (hret : meth.sig.returnType = some .int) (hd : decode c.code pc = .ok (.ireturn, 1)) {fs : List Frame}
    (hl : ∀ (f : JFrame) (acts : List Action), f.method = m → f.locked = none → f.entered = [] → (doReturn e (T.setTop f) acts (some (.int z))).1 = T.setFrames fs) : Steps p.tables e below (T.setTop (mkF m pc Ls (.int z :: rest))) (T.setFrames fs) := by
  have hm' : T.vm.method? m = some meth := X.method'
  have hn : narrow .int (.int z) = .int z := rfl
  show Steps p.tables e below (T.setTop { method := m, pc := pc, locals := Ls, stack := _ :: rest, locked := none }) _
  jvm_step X.here [X.here.top, hx, hd, hm', hret, hn]
  first | (intro acts; rw [hl _ acts rfl rfl rfl]) | rw [hl _ _ rfl rfl rfl]
  exact Steps.refl _
end New
end Jvm.RoadKit
namespace Jvm.Pilot.@@N@@
open Jvm Jvm.ClassFile Sem Op Lib Jvm.Free Jvm.Stand Jvm.LawKit Jvm.RoadKit Bundle Jvm.Pilot.@@N@@.Jvm.D
def QT (n0 : Nat) (v : Option Value) (h : Heap) (L : List Loc) : Prop := v = some (.int 1) ∧ Fr n0 L
def QP (r : Option Value) (h0 : Heap) (n0 : Nat) (v : Option Value) (h : Heap) (L : List Loc) : Prop := v = r ∧ Fr n0 L ∧ h = h0
theorem own_fld {Z : State} {args : Array Value} {t : Term} {C n d : String} {a : Addr} {i : Int32} (ev : t.eval args Z none [] Z = some (.ref a)) (h : (Cond.eq (Term.field t C n d) (Term.int i)).value args Z none Z [] = some true) : Fld Z Z.heap a C n d (.int i) := by
  have e := fld_at (C := C) (n := n) (dd := d) ev
  refine Fld.start ?_
  obtain ⟨x, y, h1, h2, k1, k2⟩ := cmp_v (Or.inl h)
  have h3 : y = .int i := (Option.some.inj ((Term.int_eval i).symm.trans h2)).symm
  subst h3
  obtain ⟨z, rfl⟩ := k2
  have q : z = i := by simpa [Cond.value, h1, h2] using h
  rw [← e, h1, q]
theorem own_fldn {Z : State} {args : Array Value} {t : Term} {C n d : String} {a : Addr} (ev : t.eval args Z none [] Z = some (.ref a)) (h : (Cond.eq (Term.field t C n d) Term.null).value args Z none Z [] = some true) : Fld Z Z.heap a C n d .null := Fld.start ((fld_at ev).symm.trans (null_v h))
theorem own_sti {Z : State} {args : Array Value} {C n d : String} {i : Int32} (h : (Cond.eq (Term.static C n d) (Term.int i)).value args Z none Z [] = some true) : (Term.static C n d).eval args Z none [] Z = some (.int i) := by
  obtain ⟨x, y, h1, h2, k1, k2⟩ := cmp_v (Or.inl h)
  have h3 : y = .int i := (Option.some.inj ((Term.int_eval i).symm.trans h2)).symm
  subst h3
  obtain ⟨z, rfl⟩ := k2
  have q : z = i := by simpa [Cond.value, h1, h2] using h
  rw [h1, q]
theorem own_sta_keep {Z : State} {h h' : Heap} {C n d : String} {v : Value} {ws : List Addr} (F : Sta Z h C n d v) (K : Keep h h' ws) (q : ∀ x ∈ ws, ∀ c : Cell, h[x]? = some c → c.vm.isStatics = false) : Sta Z h' C n d v := by
  obtain ⟨cf, i, k, f, st, cell, h1, h2, h3, h4, h5, h6, h7⟩ := F
  have ne : st ∉ ws := fun z => by rw [q st z cell h5] at h6; cases h6
  exact ⟨cf, i, k, f, st, cell, h1, h2, h3, h4, K.2.1 st cell h5 ne, h6, h7⟩
theorem own_ns {h : Heap} {x : Addr} {ws : List Addr} (p : ∀ c : Cell, h[x]? = some c → c.vm.isStatics = false) (q : ∀ y ∈ ws, ∀ c : Cell, h[y]? = some c → c.vm.isStatics = false) : ∀ y ∈ x :: ws, ∀ c : Cell, h[y]? = some c → c.vm.isStatics = false := fun y hy => (List.mem_cons.mp hy).elim (fun e => e ▸ p) (q y)
theorem own_notin {a x : Addr} {ws : List Addr} (p : a ≠ x) (q : a ∉ ws) : a ∉ x :: ws := fun h => (List.mem_cons.mp h).elim p q
def OwnAll (Z : State) (h : Heap) (a : Addr) (C : String) : Prop := ∃ cl : Cell, Arr Z h a cl (.object C) ∧ cl.slots.size = 256 ∧ ∀ i, i < 256 → ∃ b, cl.slots[i]? = some (.ref b) ∧ Exa Z h b C
theorem own_all_ext {Z : State} {h h' : Heap} {a : Addr} {C : String} (F : OwnAll Z h a C) (E : Ext h h') : OwnAll Z h' a C := by
  obtain ⟨cl, A, n, H⟩ := F
  exact ⟨cl, A.ext E, n, fun i hi => by obtain ⟨b, q, e⟩ := H i hi; exact ⟨b, q, e.ext E⟩⟩
theorem own_all_wr {Z : State} {h h' : Heap} {a o : Addr} {C : String} {sl : Nat} {v : Value} (F : OwnAll Z h a C) (W : Wr h h' o sl v) (ne : a ≠ o) : OwnAll Z h' a C := by
  obtain ⟨cl, A, n, H⟩ := F
  exact ⟨cl, A.other W ne, n, fun i hi => by obtain ⟨b, q, e⟩ := H i hi; exact ⟨b, q, Exa.wr W e⟩⟩
theorem own_all_keep {Z : State} {h h' : Heap} {a : Addr} {C : String} {ws : List Addr} (F : OwnAll Z h a C) (K : Keep h h' ws) (ne : a ∉ ws) : OwnAll Z h' a C := by
  obtain ⟨cl, A, n, H⟩ := F
  exact ⟨cl, ⟨K.2.1 a cl A.1 ne, A.2⟩, n, fun i hi => by obtain ⟨b, q, e⟩ := H i hi; exact ⟨b, q, e.keep K⟩⟩
theorem own_all_start {Z : State} {args : Array Value} {t : Term} {a : Addr} {C : String} {D : Jvm.Cond} (ev : ∀ idx, t.eval args Z none idx Z = some (.ref a)) (w1 : (Cond.arrayOf t (.object C)).value args Z none Z [] = some true) (w2 : (Cond.eq (.length t) (.int (256 : Int32))).before args Z = true)
    (w3 : (Cond.all t (.and (.exactly (.elem t (.index 0)) C) D)).value args Z none Z [] = some true) : OwnAll Z Z.heap a C := by
  obtain ⟨cl, A⟩ := Arr.start (ev []) w1
  have hat := IntBox.arrayAt_of A.1 A.2.1 A.2.2
  obtain ⟨l1, l2⟩ := IntBox.length_fwd w2 (ev []) A.1 A.2.1 A.2.2
  have l3 : cl.slots.size = 256 := by
    have q := congrArg Int32.toInt l2
    rw [len_toInt l1] at q
    have e : (256 : Int32).toInt = 256 := by decide
    omega
  refine ⟨cl, A, l3, fun i hi => ?_⟩
  have q := Cond.all_elim (ev []) hat w3 i (by rw [l3]; exact hi)
  obtain ⟨q1, -⟩ := and_e q
  obtain ⟨b, c', cell, k, e1, e2, e3, e4, e5, rfl, e7⟩ := Cond.exactly_spec (beq_iff_eq.mpr q1 : (Cond.exactly (.elem t (.index 0)) C).holds args Z none Z [i] = true)
  have ix : (Term.index 0).eval args Z none [i] Z = some (.int i.toInt32) := by simp [Term.eval]
  have u := (elem_in e1 (ev [i]) ix A.1).2
  rw [(IntBox.place_nonneg i hi).2] at u
  exact ⟨b, u, cell, k, e3, e2, e4, e5, e7⟩
def QB (Z : State) (C : String) (h0 : Heap) (n0 : Nat) (v : Option Value) (h : Heap) (L : List Loc) : Prop := ∃ b, v = some (.ref b) ∧ Fr n0 L ∧ Keep h0 h [] ∧ Exa Z h b C
theorem own_weakQ {l : Launch} {y : MethodName} {S : Spec} {P : Array Value → State → Prop} {k1 k2 : Nat} {Q Q' : Option Value → Heap → List Loc → Prop} (hi : ∀ v h L, Q v h L → Q' v h L) (h : MetFree l y S P (fun _ _ _ _ _ => True) (fun _ U o U' => ∃ v L, o = .returned v ∧ Q v U'.heap L ∧ FrameEnd U o U' L k1 k2)) :
    MetFree l y S P (fun _ _ _ _ _ => True) (fun _ U o U' => ∃ v L, o = .returned v ∧ Q' v U'.heap L ∧ FrameEnd U o U' L k1 k2) := by
  intro p e ha hc hk s m args below hf happ hP hK
  obtain ⟨n, o, h1, h2, h3, v, L, h4, h5, h7⟩ := h p e ha hc hk s m args below hf happ hP hK
  exact ⟨n, o, h1, h2, h3, v, L, h4, hi _ _ _ h5, h7⟩
theorem own_jidx (x : Int64) (h1 : ¬ ((lcmpW x (-128 : Int64)) < (0 : Int32))) (h2 : ¬ ((0 : Int32) < (lcmpW x (127 : Int64)))) : ¬ ((x.toInt32) + (128 : Int32)) < 0 ∧ ((x.toInt32) + (128 : Int32)).toNatClampNeg < 256 := by
  rw [lcW, lc_lt, Int64.lt_iff_toInt_lt] at h1
  rw [lcW, lc_gt, Int64.lt_iff_toInt_lt] at h2
  have e1 : (-128 : Int64).toInt = -128 := by decide
  have e2 : (127 : Int64).toInt = 127 := by decide
  rw [e1] at h1
  rw [e2] at h2
  have e : x.toInt32.toInt = x.toInt := by rw [Int64.toInt_toInt32]; exact Int.bmod_eq_of_le_mul_two (by omega) (by omega)
  refine (fun q => ⟨fun z => q.1 (Or.inl z), q.2⟩) (IntBox.place_ok x.toInt32 ?_ ?_)
  · rw [Int32.lt_iff_toInt_lt, e, show (-128 : Int32).toInt = -128 from by decide]; omega
  · show ¬ (127 : Int32) < x.toInt32
    rw [Int32.lt_iff_toInt_lt, e, show (127 : Int32).toInt = 127 from by decide]; omega
theorem own_nn (x : Int64) : ¬ ((lcmpW (x &&& (9223372036854775807 : Int64)) (0 : Int64)) < (0 : Int32)) ∧ ¬ ((0 : Int32) < (lcmpW (x &&& (9223372036854775807 : Int64)) (9223372036854775807 : Int64))) ∧ ¬ ((lcmpW (x &&& (9223372036854775807 : Int64)) (-128 : Int64)) < (0 : Int32)) := by
  have h := (c_andSL x (9223372036854775807 : Int64)).2.2 (by decide)
  have u := Int64.toInt_lt (x &&& (9223372036854775807 : Int64))
  have e0 : (0 : Int64).toInt = 0 := by decide
  have e1 : (-128 : Int64).toInt = -128 := by decide
  have e2 : (9223372036854775807 : Int64).toInt = 9223372036854775807 := by decide
  rw [lcW, lc_lt, lcW, lc_gt, lcW, lc_lt, Int64.lt_iff_toInt_lt, Int64.lt_iff_toInt_lt, Int64.lt_iff_toInt_lt, e0, e1, e2]
  omega
theorem own_and3 (x : Int32) : (x &&& (3 : Int32)) = (0 : Int32) ∨ (x &&& (3 : Int32)) = (1 : Int32) ∨ (x &&& (3 : Int32)) = (2 : Int32) ∨ (x &&& (3 : Int32)) = (3 : Int32) := by
  have h := c_and x (3 : Int32) (by decide)
  have e : (3 : Int32).toInt = 3 := by decide
  have e0 : (0 : Int32).toInt = 0 := by decide
  have e1 : (1 : Int32).toInt = 1 := by decide
  have e2 : (2 : Int32).toInt = 2 := by decide
  have e3 : (3 : Int32).toInt = 3 := by decide
  simp only [← Int32.toInt_inj, e0, e1, e2, e3]
  omega
abbrev S_0 (Z : State) (h : Heap) (v : Value) : Prop := Sta Z h "java/lang/Long$LongCache" "cache" "[Ljava/lang/Long;" v
abbrev E_0 (Z : State) (h : Heap) (a : Addr) : Prop := Exa Z h a "[Ljava/lang/Long;"
set_option maxRecDepth 65536 in
set_option maxHeartbeats 40000000 in
theorem sg7_1 {p : Program} {l : Launch} {e : Env} {s : State} {m : MethodId} {below : List Frame} {meth : Method} {c : Code} {T0 : State} {locs : List Loc} {Z : State} {a0 : Array Value} (p0 : Int32) (p1 : Int32) (p2 : Int64) (gq4 : Int32) {h0 : Heap} {n0 : Nat} (X0 : Stand p l e room_1 s m #[(.int p0), (.int p1), (.long p2)] below meth c T0 locs 0 0) (hx : p.tables.exec = Jvm.exec) (hZ : Z.Warmed39 s.vm) (hw : ∀ d ∈ tables_1, d.before a0 Z = true) (hby : c.code = code) (hml : c.maxLocals = 15) (hown : s.vm.findClass "hexwright/engine/SealedBidsHasBidPinLaw" = some m.cls) (e0 : T0.heap = h0) (N0 : Fr n0 locs) (Z0 : n0 ≤ h0.size) (f1 : (p1 &&& (1 : Int32)) = (0 : Int32)) :
    ∃ (T : State) (L : List Loc), Stand p l e room_1 s m #[(.int p0), (.int p1), (.long p2)] below meth c T L 0 0 ∧ T.heap = h0 ∧ Fr n0 L ∧ (∀ target, Steps p.tables e below (T.setTop (mkF m 20 #[.val (.int p0), .val (.int p1), .val (.long p2), .second, .val (.int gq4), .val (.int 0), .unset, .unset, .unset, .unset, .unset, .unset, .unset, .unset, .unset] [])) target → Steps p.tables e below (T0.setTop (mkF m 7 #[.val (.int p0), .val (.int p1), .val (.long p2), .second, .val (.int gq4), .unset, .unset, .unset, .unset, .unset, .unset, .unset, .unset, .unset, .unset] [])) target) := by
  refine ⟨T0, _, X0, e0, N0, fun target kt => ?_⟩
  show Steps p.tables e below (T0.setTop (mkF m 7 #[.val (.int p0), .val (.int p1), .val (.long p2), .second, .val (.int gq4), .unset, .unset, .unset, .unset, .unset, .unset, .unset, .unset, .unset, .unset] [])) _
  refine XS.iloadN X0.here hx rfl (hb hby at_7) rfl ?_
  refine XS.iconst X0.here hx rfl (hb hby at_8) ?_
  show Steps p.tables e below (T0.setTop (mkF m 9 #[.val (.int p0), .val (.int p1), .val (.long p2), .second, .val (.int gq4), .unset, .unset, .unset, .unset, .unset, .unset, .unset, .unset, .unset, .unset] [(.int 1), (.int p1)])) _
  refine XS.iand X0.here hx rfl (hb hby at_9) rfl ?_
  refine XS.ifYes X0.here hx rfl (pc0 := 10) (pc' := 17) rfl (hb hby at_10) rfl ((if0 _ _).trans (teq (f1 : (p1 &&& (1 : Int32)) = (0 : Int32))).1) (by decide) (by decide) ?_
  refine XS.iconst X0.here hx rfl (hb hby at_17) ?_
  refine XS.istore X0.here hx rfl (hb hby at_18) rfl (l' := #[.val (.int p0), .val (.int p1), .val (.long p2), .second, .val (.int gq4), .val (.int 0), .unset, .unset, .unset, .unset, .unset, .unset, .unset, .unset, .unset]) rfl ?_
  show Steps p.tables e below (T0.setTop (mkF m 20 #[.val (.int p0), .val (.int p1), .val (.long p2), .second, .val (.int gq4), .val (.int 0), .unset, .unset, .unset, .unset, .unset, .unset, .unset, .unset, .unset] [])) _
  exact kt
set_option maxRecDepth 65536 in
set_option maxHeartbeats 40000000 in
theorem sg20_2 {p : Program} {l : Launch} {e : Env} {s : State} {m : MethodId} {below : List Frame} {meth : Method} {c : Code} {T0 : State} {locs : List Loc} {Z : State} {a0 : Array Value} (p0 : Int32) (p1 : Int32) (p2 : Int64) (gq5 : Int32) {h0 : Heap} {n0 : Nat} (X0 : Stand p l e room_1 s m #[(.int p0), (.int p1), (.long p2)] below meth c T0 locs 0 0) (hx : p.tables.exec = Jvm.exec) (hZ : Z.Warmed39 s.vm) (hw : ∀ d ∈ tables_1, d.before a0 Z = true) (hby : c.code = code) (hml : c.maxLocals = 15) (hown : s.vm.findClass "hexwright/engine/SealedBidsHasBidPinLaw" = some m.cls) (e0 : T0.heap = h0) (N0 : Fr n0 locs) (Z0 : n0 ≤ h0.size) :
    ∃ (T : State) (L : List Loc), Stand p l e room_1 s m #[(.int p0), (.int p1), (.long p2)] below meth c T L 0 0 ∧ T.heap = h0 ∧ Fr n0 L ∧ (∀ target, Steps p.tables e below (T.setTop (mkF m 39 #[.val (.int p0), .val (.int p1), .val (.long p2), .second, .val (.int 1), .val (.int gq5), .val (.int 0), .unset, .unset, .unset, .unset, .unset, .unset, .unset, .unset] [])) target → Steps p.tables e below (T0.setTop (mkF m 20 #[.val (.int p0), .val (.int p1), .val (.long p2), .second, .val (.int 1), .val (.int gq5), .unset, .unset, .unset, .unset, .unset, .unset, .unset, .unset, .unset] [])) target) := by
  refine ⟨T0, _, X0, e0, N0, fun target kt => ?_⟩
  show Steps p.tables e below (T0.setTop (mkF m 20 #[.val (.int p0), .val (.int p1), .val (.long p2), .second, .val (.int 1), .val (.int gq5), .unset, .unset, .unset, .unset, .unset, .unset, .unset, .unset, .unset] [])) _
  refine XS.iload X0.here hx rfl (hb hby at_20) rfl ?_
  refine XS.iconst X0.here hx rfl (hb hby at_22) ?_
  refine XS.icmpYes X0.here hx rfl (pc0 := 23) (pc' := 36) rfl (hb hby at_23) rfl (by decide) (by decide) (by decide) ?_
  refine XS.iconst X0.here hx rfl (hb hby at_36) ?_
  refine XS.istore X0.here hx rfl (hb hby at_37) rfl (l' := #[.val (.int p0), .val (.int p1), .val (.long p2), .second, .val (.int 1), .val (.int gq5), .val (.int 0), .unset, .unset, .unset, .unset, .unset, .unset, .unset, .unset]) rfl ?_
  show Steps p.tables e below (T0.setTop (mkF m 39 #[.val (.int p0), .val (.int p1), .val (.long p2), .second, .val (.int 1), .val (.int gq5), .val (.int 0), .unset, .unset, .unset, .unset, .unset, .unset, .unset, .unset] [])) _
  exact kt
set_option maxRecDepth 65536 in
set_option maxHeartbeats 40000000 in
theorem sg39_3 {p : Program} {l : Launch} {e : Env} {s : State} {m : MethodId} {below : List Frame} {meth : Method} {c : Code} {T0 : State} {locs : List Loc} {Z : State} {a0 : Array Value} (p0 : Int32) (p1 : Int32) (p2 : Int64) (gq5 : Int32) (gq6 : Int32) {h0 : Heap} {n0 : Nat} (X0 : Stand p l e room_1 s m #[(.int p0), (.int p1), (.long p2)] below meth c T0 locs 0 0) (hx : p.tables.exec = Jvm.exec) (hZ : Z.Warmed39 s.vm) (hw : ∀ d ∈ tables_1, d.before a0 Z = true) (hby : c.code = code) (hml : c.maxLocals = 15) (hown : s.vm.findClass "hexwright/engine/SealedBidsHasBidPinLaw" = some m.cls) (e0 : T0.heap = h0) (N0 : Fr n0 locs) (Z0 : n0 ≤ h0.size) :
    ∃ (T : State) (L : List Loc), Stand p l e room_1 s m #[(.int p0), (.int p1), (.long p2)] below meth c T L 0 0 ∧ T.heap = h0 ∧ Fr n0 L ∧ (∀ target, Steps p.tables e below (T.setTop (mkF m 58 #[.val (.int p0), .val (.int p1), .val (.long p2), .second, .val (.int 1), .val (.int gq5), .val (.int gq6), .val (.int 0), .unset, .unset, .unset, .unset, .unset, .unset, .unset] [])) target → Steps p.tables e below (T0.setTop (mkF m 39 #[.val (.int p0), .val (.int p1), .val (.long p2), .second, .val (.int 1), .val (.int gq5), .val (.int gq6), .unset, .unset, .unset, .unset, .unset, .unset, .unset, .unset] [])) target) := by
  refine ⟨T0, _, X0, e0, N0, fun target kt => ?_⟩
  show Steps p.tables e below (T0.setTop (mkF m 39 #[.val (.int p0), .val (.int p1), .val (.long p2), .second, .val (.int 1), .val (.int gq5), .val (.int gq6), .unset, .unset, .unset, .unset, .unset, .unset, .unset, .unset] [])) _
  refine XS.iload X0.here hx rfl (hb hby at_39) rfl ?_
  refine XS.iconst X0.here hx rfl (hb hby at_41) ?_
  refine XS.icmpYes X0.here hx rfl (pc0 := 42) (pc' := 55) rfl (hb hby at_42) rfl (by decide) (by decide) (by decide) ?_
  refine XS.iconst X0.here hx rfl (hb hby at_55) ?_
  refine XS.istore X0.here hx rfl (hb hby at_56) rfl (l' := #[.val (.int p0), .val (.int p1), .val (.long p2), .second, .val (.int 1), .val (.int gq5), .val (.int gq6), .val (.int 0), .unset, .unset, .unset, .unset, .unset, .unset, .unset]) rfl ?_
  show Steps p.tables e below (T0.setTop (mkF m 58 #[.val (.int p0), .val (.int p1), .val (.long p2), .second, .val (.int 1), .val (.int gq5), .val (.int gq6), .val (.int 0), .unset, .unset, .unset, .unset, .unset, .unset, .unset] [])) _
  exact kt
set_option maxRecDepth 65536 in
set_option maxHeartbeats 40000000 in
theorem sg58_4 {p : Program} {l : Launch} {e : Env} {s : State} {m : MethodId} {below : List Frame} {meth : Method} {c : Code} {T0 : State} {locs : List Loc} {Z : State} {a0 : Array Value} (p0 : Int32) (p1 : Int32) (p2 : Int64) (gq5 : Int32) (gq6 : Int32) (gq7 : Int32) {h0 : Heap} {n0 : Nat} (X0 : Stand p l e room_1 s m #[(.int p0), (.int p1), (.long p2)] below meth c T0 locs 0 0) (hx : p.tables.exec = Jvm.exec) (hZ : Z.Warmed39 s.vm) (hw : ∀ d ∈ tables_1, d.before a0 Z = true) (hby : c.code = code) (hml : c.maxLocals = 15) (hown : s.vm.findClass "hexwright/engine/SealedBidsHasBidPinLaw" = some m.cls) (e0 : T0.heap = h0) (N0 : Fr n0 locs) (Z0 : n0 ≤ h0.size) :
    ∃ (T : State) (L : List Loc), Stand p l e room_1 s m #[(.int p0), (.int p1), (.long p2)] below meth c T L 0 0 ∧ T.heap = h0 ∧ Fr n0 L ∧ (∀ target, Steps p.tables e below (T.setTop (mkF m 78 #[.val (.int p0), .val (.int p1), .val (.long p2), .second, .val (.int 1), .val (.int gq5), .val (.int gq6), .val (.int gq7), .val (.int 0), .unset, .unset, .unset, .unset, .unset, .unset] [])) target → Steps p.tables e below (T0.setTop (mkF m 58 #[.val (.int p0), .val (.int p1), .val (.long p2), .second, .val (.int 1), .val (.int gq5), .val (.int gq6), .val (.int gq7), .unset, .unset, .unset, .unset, .unset, .unset, .unset] [])) target) := by
  refine ⟨T0, _, X0, e0, N0, fun target kt => ?_⟩
  show Steps p.tables e below (T0.setTop (mkF m 58 #[.val (.int p0), .val (.int p1), .val (.long p2), .second, .val (.int 1), .val (.int gq5), .val (.int gq6), .val (.int gq7), .unset, .unset, .unset, .unset, .unset, .unset, .unset] [])) _
  refine XS.iload X0.here hx rfl (hb hby at_58) rfl ?_
  refine XS.iconst X0.here hx rfl (hb hby at_60) ?_
  refine XS.icmpYes X0.here hx rfl (pc0 := 61) (pc' := 75) rfl (hb hby at_61) rfl (by decide) (by decide) (by decide) ?_
  refine XS.iconst X0.here hx rfl (hb hby at_75) ?_
  refine XS.istore X0.here hx rfl (hb hby at_76) rfl (l' := #[.val (.int p0), .val (.int p1), .val (.long p2), .second, .val (.int 1), .val (.int gq5), .val (.int gq6), .val (.int gq7), .val (.int 0), .unset, .unset, .unset, .unset, .unset, .unset]) rfl ?_
  show Steps p.tables e below (T0.setTop (mkF m 78 #[.val (.int p0), .val (.int p1), .val (.long p2), .second, .val (.int 1), .val (.int gq5), .val (.int gq6), .val (.int gq7), .val (.int 0), .unset, .unset, .unset, .unset, .unset, .unset] [])) _
  exact kt
theorem tw_0 {a0 : Array Value} {Z : State} (hw : ∀ d ∈ tables_1, d.before a0 Z = true) : (Jvm.Cond.constantLong "hexwright/engine/SealedBidsHasBidPinLaw" (9 : Nat) (9223372036854775807 : Int64)).before a0 Z = true := hw _ (List.mem_of_getElem? (i := 0) rfl)
set_option maxRecDepth 65536 in
set_option maxHeartbeats 40000000 in
theorem sg78_5 {p : Program} {l : Launch} {e : Env} {s : State} {m : MethodId} {below : List Frame} {meth : Method} {c : Code} {T0 : State} {locs : List Loc} {Z : State} {a0 : Array Value} (p0 : Int32) (p1 : Int32) (p2 : Int64) (gq4 : Int32) (gq5 : Int32) (gq6 : Int32) (gq7 : Int32) (gq8 : Int32) (jam : Int64) {h0 : Heap} {n0 : Nat} (X0 : Stand p l e room_1 s m #[(.int p0), (.int p1), (.long p2)] below meth c T0 locs 0 0) (hx : p.tables.exec = Jvm.exec) (hZ : Z.Warmed39 s.vm) (hw : ∀ d ∈ tables_1, d.before a0 Z = true) (hby : c.code = code) (hml : c.maxLocals = 15) (hown : s.vm.findClass "hexwright/engine/SealedBidsHasBidPinLaw" = some m.cls) (e0 : T0.heap = h0) (N0 : Fr n0 locs) (Z0 : n0 ≤ h0.size) (f1 : (p2 &&& (9223372036854775807 : Int64)) = jam) :
    ∃ (T : State) (L : List Loc), Stand p l e room_1 s m #[(.int p0), (.int p1), (.long p2)] below meth c T L 0 0 ∧ T.heap = h0 ∧ Fr n0 L ∧ (∀ target, Steps p.tables e below (T.setTop (mkF m 90 #[.val (.int p0), .val (.int p1), .val (.long p2), .second, .val (.int gq4), .val (.int gq5), .val (.int gq6), .val (.int gq7), .val (.int gq8), .val (.long jam), .second, .val (.long 9223372036854775807), .second, .unset, .unset] [])) target → Steps p.tables e below (T0.setTop (mkF m 78 #[.val (.int p0), .val (.int p1), .val (.long p2), .second, .val (.int gq4), .val (.int gq5), .val (.int gq6), .val (.int gq7), .val (.int gq8), .unset, .unset, .unset, .unset, .unset, .unset] [])) target) := by
  refine ⟨T0, _, X0, e0, N0, fun target kt => ?_⟩
  show Steps p.tables e below (T0.setTop (mkF m 78 #[.val (.int p0), .val (.int p1), .val (.long p2), .second, .val (.int gq4), .val (.int gq5), .val (.int gq6), .val (.int gq7), .val (.int gq8), .unset, .unset, .unset, .unset, .unset, .unset] [])) _
  refine XS.lloadN X0.here hx rfl (hb hby at_78) rfl ?_
  show Steps p.tables e below (T0.setTop (mkF m 79 #[.val (.int p0), .val (.int p1), .val (.long p2), .second, .val (.int gq4), .val (.int gq5), .val (.int gq6), .val (.int gq7), .val (.int gq8), .unset, .unset, .unset, .unset, .unset, .unset] [(.long p2)])) _
  refine X0.ldc2Long hx hown (mvT hZ (tw_0 hw)) (g := (mkF m 79 #[.val (.int p0), .val (.int p1), .val (.long p2), .second, .val (.int gq4), .val (.int gq5), .val (.int gq6), .val (.int gq7), .val (.int gq8), .unset, .unset, .unset, .unset, .unset, .unset] [(.long p2)])) rfl (hb hby at_79) _ ?_
  show Steps p.tables e below (T0.setTop (mkF m 82 #[.val (.int p0), .val (.int p1), .val (.long p2), .second, .val (.int gq4), .val (.int gq5), .val (.int gq6), .val (.int gq7), .val (.int gq8), .unset, .unset, .unset, .unset, .unset, .unset] [(.long 9223372036854775807), (.long p2)])) _
  refine XS.land X0.here hx rfl (hb hby at_82) rfl ?_
  show Steps p.tables e below (T0.setTop (mkF m 83 #[.val (.int p0), .val (.int p1), .val (.long p2), .second, .val (.int gq4), .val (.int gq5), .val (.int gq6), .val (.int gq7), .val (.int gq8), .unset, .unset, .unset, .unset, .unset, .unset] [(.long (p2 &&& (9223372036854775807 : Int64)))])) _
  rw [f1]
  refine XS.lstore X0.here hx rfl (hb hby at_83) rfl (l' := #[.val (.int p0), .val (.int p1), .val (.long p2), .second, .val (.int gq4), .val (.int gq5), .val (.int gq6), .val (.int gq7), .val (.int gq8), .val (.long jam), .second, .unset, .unset, .unset, .unset]) rfl ?_
  show Steps p.tables e below (T0.setTop (mkF m 85 #[.val (.int p0), .val (.int p1), .val (.long p2), .second, .val (.int gq4), .val (.int gq5), .val (.int gq6), .val (.int gq7), .val (.int gq8), .val (.long jam), .second, .unset, .unset, .unset, .unset] [])) _
  refine X0.ldc2Long hx hown (mvT hZ (tw_0 hw)) (g := (mkF m 85 #[.val (.int p0), .val (.int p1), .val (.long p2), .second, .val (.int gq4), .val (.int gq5), .val (.int gq6), .val (.int gq7), .val (.int gq8), .val (.long jam), .second, .unset, .unset, .unset, .unset] [])) rfl (hb hby at_85) _ ?_
  refine XS.lstore X0.here hx rfl (hb hby at_88) rfl (l' := #[.val (.int p0), .val (.int p1), .val (.long p2), .second, .val (.int gq4), .val (.int gq5), .val (.int gq6), .val (.int gq7), .val (.int gq8), .val (.long jam), .second, .val (.long 9223372036854775807), .second, .unset, .unset]) rfl ?_
  show Steps p.tables e below (T0.setTop (mkF m 90 #[.val (.int p0), .val (.int p1), .val (.long p2), .second, .val (.int gq4), .val (.int gq5), .val (.int gq6), .val (.int gq7), .val (.int gq8), .val (.long jam), .second, .val (.long 9223372036854775807), .second, .unset, .unset] [])) _
  exact kt
theorem tw_1 {a0 : Array Value} {Z : State} (hw : ∀ d ∈ tables_1, d.before a0 Z = true) : (Jvm.Cond.classLink "hexwright/engine/SealedBidsHasBidPinLaw" (11 : Nat) "hexwright/engine/SealedBids").before a0 Z = true := hw _ (List.mem_of_getElem? (i := 1) rfl)
theorem tw_2 {a0 : Array Value} {Z : State} (hw : ∀ d ∈ tables_1, d.before a0 Z = true) : (Jvm.Cond.instantiable "hexwright/engine/SealedBids" (1 : Nat)).before a0 Z = true := hw _ (List.mem_of_getElem? (i := 2) rfl)
theorem tw_3 {a0 : Array Value} {Z : State} (hw : ∀ d ∈ tables_1, d.before a0 Z = true) : (Jvm.Cond.initialized "hexwright/engine/SealedBids").before a0 Z = true := hw _ (List.mem_of_getElem? (i := 3) rfl)
abbrev E_1 (Z : State) (h : Heap) (a : Addr) : Prop := Exa Z h a "hexwright/engine/SealedBids"
abbrev F_0 (Z : State) (h : Heap) (a : Addr) (v : Value) : Prop := Fld Z h a "hexwright/engine/SealedBids" "bids" "[Ljava/lang/Long;" v
theorem tw_13 {a0 : Array Value} {Z : State} (hw : ∀ d ∈ tables_1, d.before a0 Z = true) : (Jvm.Cond.laysFinal "hexwright/engine/SealedBids" "hexwright/engine/SealedBids" "bids" "[Ljava/lang/Long;").before a0 Z = true := hw _ (List.mem_of_getElem? (i := 13) rfl)
theorem tw_4 {a0 : Array Value} {Z : State} (hw : ∀ d ∈ tables_1, d.before a0 Z = true) : (Jvm.Cond.methodLink "hexwright/engine/SealedBidsHasBidPinLaw" (13 : Nat) ({ cls := "hexwright/engine/SealedBids", name := "<init>", desc := "(I)V" } : Jvm.MethodName)).before a0 Z = true := hw _ (List.mem_of_getElem? (i := 4) rfl)
theorem tw_6 {a0 : Array Value} {Z : State} (hw : ∀ d ∈ tables_1, d.before a0 Z = true) : (Jvm.Cond.code ({ cls := "hexwright/engine/SealedBids", name := "<init>", desc := "(I)V" } : Jvm.MethodName) prog_14_method_1_code (2 : Nat) (Option.none : Option Jvm.ClassFile.FieldType)).before a0 Z = true := hw _ (List.mem_of_getElem? (i := 6) rfl)
theorem d1_0 : decode prog_14_method_1_code 0 = .ok (.aload_n 0, 1) := by decide +kernel
theorem d1_1 : decode prog_14_method_1_code 1 = .ok (.invokespecial 1, 3) := by decide +kernel
theorem tw_7 {a0 : Array Value} {Z : State} (hw : ∀ d ∈ tables_1, d.before a0 Z = true) : (Jvm.Cond.methodLink "hexwright/engine/SealedBids" (1 : Nat) ({ cls := "java/lang/Object", name := "<init>", desc := "()V" } : Jvm.MethodName)).before a0 Z = true := hw _ (List.mem_of_getElem? (i := 7) rfl)
theorem tw_9 {a0 : Array Value} {Z : State} (hw : ∀ d ∈ tables_1, d.before a0 Z = true) : (Jvm.Cond.code ({ cls := "java/lang/Object", name := "<init>", desc := "()V" } : Jvm.MethodName) object_method_1_code (1 : Nat) (Option.none : Option Jvm.ClassFile.FieldType)).before a0 Z = true := hw _ (List.mem_of_getElem? (i := 9) rfl)
theorem tw_8 {a0 : Array Value} {Z : State} (hw : ∀ d ∈ tables_1, d.before a0 Z = true) : (Jvm.Cond.instanceMethod ({ cls := "java/lang/Object", name := "<init>", desc := "()V" } : Jvm.MethodName)).before a0 Z = true := hw _ (List.mem_of_getElem? (i := 8) rfl)
theorem d1_4 : decode prog_14_method_1_code 4 = .ok (.aload_n 0, 1) := by decide +kernel
theorem d1_5 : decode prog_14_method_1_code 5 = .ok (.iload_n 1, 1) := by decide +kernel
theorem d1_6 : decode prog_14_method_1_code 6 = .ok (.anewarray 7, 3) := by decide +kernel
theorem tw_10 {a0 : Array Value} {Z : State} (hw : ∀ d ∈ tables_1, d.before a0 Z = true) : (Jvm.Cond.classLink "hexwright/engine/SealedBids" (7 : Nat) "java/lang/Long").before a0 Z = true := hw _ (List.mem_of_getElem? (i := 10) rfl)
theorem tw_11 {a0 : Array Value} {Z : State} (hw : ∀ d ∈ tables_1, d.before a0 Z = true) : (Jvm.Cond.arrayOver (Jvm.ClassFile.FieldType.object "java/lang/Long")).before a0 Z = true := hw _ (List.mem_of_getElem? (i := 11) rfl)
theorem d1_9 : decode prog_14_method_1_code 9 = .ok (.putfield 9, 3) := by decide +kernel
theorem tw_12 {a0 : Array Value} {Z : State} (hw : ∀ d ∈ tables_1, d.before a0 Z = true) : (Jvm.Cond.fieldLink "hexwright/engine/SealedBids" (9 : Nat) "hexwright/engine/SealedBids" "bids" "[Ljava/lang/Long;").before a0 Z = true := hw _ (List.mem_of_getElem? (i := 12) rfl)
theorem d1_12 : decode prog_14_method_1_code 12 = .ok (.return_, 1) := by decide +kernel
abbrev R_1_1_1_12 : Room := { frames := 1, cells := 1, slots := 1, locals := 12 }
abbrev M_0 : MethodName := ⟨"hexwright/engine/SealedBids", "<init>", "(I)V"⟩
theorem ef1_RI (m : MethodId) (x0 : Addr) (x1 : Int32) : entryFrame m #[(.ref x0), (.int x1)] 2 = mkF m 0 #[.val (.ref x0), .val (.int x1)] [] := by first | (simp [entryFrame, mkF, argsToLocals, Value.category]; done) | rfl
def Q1_10 (Z : State) (c0_a : Addr) (h0 : Heap) (n0 : Nat) (v : Option Value) (h : Heap) (L : List Loc) : Prop := ∃ (b7 : Addr) (kc8 : ClassId), v = none ∧ Fr n0 L ∧ Keep h0 h [c0_a] ∧ h0.size ≤ b7 ∧ F_0 Z h c0_a (.ref b7) ∧ Arv Z h b7 kc8 (.object "java/lang/Long") (1 : Int32) [.null] .null ∧ Ovr Z kc8 "java/lang/Long"
theorem pn_hexwright_engine_SealedBids : plainName "hexwright/engine/SealedBids" = true := by first | (simp [plainName, overriddenIn]; done) | decide +kernel
set_option maxRecDepth 65536 in
set_option maxHeartbeats 40000000 in
theorem rm1_9 (l : Launch) (Z : State) (a0 : Array Value) (hw : ∀ d ∈ tables_1, d.before a0 Z = true) (ws : List Jvm.Cond) (c0_a : Addr) (h0 : Heap) (n0 : Nat) (Z0 : n0 ≤ h0.size) (f1 : F_0 Z h0 c0_a .null) (f2 : E_1 Z h0 c0_a) (f3 : n0 ≤ c0_a) :
    MetFree l M_0 (head1 (Jvm.Cond.code M_0 prog_14_method_1_code 2 none :: ws) R_1_1_1_12) (fun a U => a = #[(.ref c0_a), (.int 1)] ∧ Z.Warmed39 U.vm ∧ U.heap = h0) (fun _ _ _ _ _ => True) (fun _ U o U' => ∃ v L, o = .returned v ∧ Q1_10 Z c0_a h0 n0 v U'.heap L ∧ FrameEnd U o U' L R_1_1_1_12.cells R_1_1_1_12.slots) := by
  refine MetFree.of_bodySF (plainFor_of_name pn_hexwright_engine_SealedBids) hisR ?_
  intro p e s m args below meth c s₁ Bd hml0 hP hK
  obtain ⟨rfl, hZ, hh⟩ := hP
  have hx := Bd.exec
  have hby := Bd.bytes
  have hml : c.maxLocals = 2 := hml0
  have hown : s.vm.findClass "hexwright/engine/SealedBids" = some m.cls := findClass_of_methodNamed Bd.named
  have hnm := (name_of_methodNamed Bd.named Bd.method).1
  have X0 : Stand p l e R_1_1_1_12 s m #[(.ref c0_a), (.int 1)] below meth c s₁ [] 0 0 := Stand.of_body Bd
  have e0 : s₁.heap = h0 := by rw [← hh, Bd.state]; rfl
  have N0 := Fr.nil n0
  obtain ⟨T1, X1, e1, st1⟩ := initO X0 hx hZ hown (tw_7 hw) (tw_8 hw) (tw_9 hw) e0 (g := (mkF m 1 #[.val (.ref c0_a), .val (.int 1)] [(.ref c0_a)])) rfl (by rw [hml]; rfl) rfl (hb hby d1_1) (by decide) (W := 0) (by show 2 * 0 + _ ≤ _; exact Nat.le_of_eq rfl) (by decide)
  obtain ⟨T2, h2, k2, X2, e2, E2, A2, O2, st2⟩ := newR X1 hx hZ hown (tw_10 hw) (tw_11 hw) e1 (g := (mkF m 6 #[.val (.ref c0_a), .val (.int 1)] [(.int 1), (.ref c0_a)])) rfl (hb hby d1_6) rfl (by decide : ¬ ((1 : Int32) < (0 : Int32))) (cap := 1) (by decide : (1 : Int32).toNatClampNeg ≤ 1) (by decide) (by decide) (by decide)
  obtain ⟨b7, g2⟩ : ∃ z, z = h0.size := ⟨_, rfl⟩
  rw [← g2] at A2 st2
  obtain ⟨kc8, gk2⟩ : ∃ z, z = k2 := ⟨_, rfl⟩
  rw [← gk2] at A2 O2
  have sz_b7 : h0.size ≤ b7 := Nat.le_trans (Nat.le_refl _) (Nat.le_of_eq g2.symm)
  have g_b7 : n0 ≤ b7 := Nat.le_trans Z0 sz_b7
  have KK2 : Keep h0 h2 [c0_a] := (Keep.refl h0 [c0_a]).ext E2
  have V2 : Arv Z h2 b7 kc8 (.object "java/lang/Long") (1 : Int32) [.null] .null := (Arv.new A2 (by decide)).pad (pad_rep [] .null 1)
  have u3 : F_0 Z h2 c0_a .null := Fld.ext E2 f1
  have u4 : E_1 Z h2 c0_a := Exa.ext E2 f2
  obtain ⟨T5, h5, X5, e5, W5, st5⟩ := putF X2 hx hZ hown (host := "") (Or.inl (tw_12 hw)) Via.refl e2 u3 u4 (Or.inr ⟨(tw_13 hw), rfl, hnm⟩) (tw_2 hw) (ty := (.array (.object "java/lang/Long"))) (by decide) rfl rfl (g := (mkF m 9 #[.val (.ref c0_a), .val (.int 1)] [(.ref b7), (.ref c0_a)])) rfl rfl (hb hby d1_9)
  have Fw5 : F_0 Z h5 c0_a (.ref b7) := Fld.same W5 u3
  have KK5 : Keep h0 h5 [c0_a] := KK2.wr W5 (Or.inl (List.mem_of_getElem? (i := 0) rfl))
  have N5 := Fr.snoc X5 N0 f3
  have ne6 : c0_a ≠ b7 := Nat.ne_of_lt (Nat.lt_of_lt_of_le (Exa.lt f2) (Nat.le_of_eq g2.symm))
  have u7 : Arv Z h5 b7 kc8 (.object "java/lang/Long") (1 : Int32) [.null] .null := Arv.other V2 W5 (Ne.symm ne6)
  obtain ⟨fs, hr, hrun, hended, hW, hsame⟩ := X5.leave (v := none) (fun _ => rfl)
  refine ⟨_, _, castTop (ef1_RI m c0_a (1 : Int32)) ?_, hrun, hended, _, _, rfl, ?_, ⟨_, rfl⟩, hW, hsame.mono (by decide) (by decide)⟩
  · show Steps p.tables e below (s₁.setTop (mkF m 0 #[.val (.ref c0_a), .val (.int 1)] [])) _
    refine XS.aloadN X0.here hx rfl (hb hby d1_0) rfl rfl ?_
    show Steps p.tables e below (s₁.setTop (mkF m 1 #[.val (.ref c0_a), .val (.int 1)] [(.ref c0_a)])) _
    refine st1 _ ?_
    refine XS.aloadN X1.here hx rfl (hb hby d1_4) rfl rfl ?_
    refine XS.iloadN X1.here hx rfl (hb hby d1_5) rfl ?_
    show Steps p.tables e below (T1.setTop (mkF m 6 #[.val (.ref c0_a), .val (.int 1)] [(.int 1), (.ref c0_a)])) _
    refine st2 _ ?_
    show Steps p.tables e below (T2.setTop (mkF m 9 #[.val (.ref c0_a), .val (.int 1)] [(.ref b7), (.ref c0_a)])) _
    refine st5 _ ?_
    show Steps p.tables e below (T5.setTop (mkF m 12 #[.val (.ref c0_a), .val (.int 1)] [])) _
    exact X5.returnOut hx Bd.returns (hb hby d1_12) hr
  · show Q1_10 Z c0_a h0 n0 _ T5.heap _
    rw [e5]
    exact ⟨b7, kc8, rfl, N5, KK5, sz_b7, Fw5, u7, O2⟩
theorem pd_0 : parseMethodDescriptor "(I)V" = some ⟨[.int], none⟩ := by decide +kernel
theorem tw_5 {a0 : Array Value} {Z : State} (hw : ∀ d ∈ tables_1, d.before a0 Z = true) : (Jvm.Cond.instanceMethod ({ cls := "hexwright/engine/SealedBids", name := "<init>", desc := "(I)V" } : Jvm.MethodName)).before a0 Z = true := hw _ (List.mem_of_getElem? (i := 5) rfl)
set_option maxRecDepth 65536 in
set_option maxHeartbeats 40000000 in
theorem sg90_13 {p : Program} {l : Launch} {e : Env} {s : State} {m : MethodId} {below : List Frame} {meth : Method} {c : Code} {T0 : State} {locs : List Loc} {Z : State} {a0 : Array Value} (p0 : Int32) (p1 : Int32) (p2 : Int64) (gq5 : Int32) (gq6 : Int32) (gq7 : Int32) (gq8 : Int32) (jam : Int64) (gq11 : Int64) {h0 : Heap} {n0 : Nat} (X0 : Stand p l e room_1 s m #[(.int p0), (.int p1), (.long p2)] below meth c T0 locs 0 0) (hx : p.tables.exec = Jvm.exec) (hZ : Z.Warmed39 s.vm) (hw : ∀ d ∈ tables_1, d.before a0 Z = true) (hby : c.code = code) (hml : c.maxLocals = 15) (hown : s.vm.findClass "hexwright/engine/SealedBidsHasBidPinLaw" = some m.cls) (e0 : T0.heap = h0) (N0 : Fr n0 locs) (Z0 : n0 ≤ h0.size) :
    ∃ (T : State) (h : Heap) (L : List Loc) (b6 : Addr) (b11 : Addr) (kc12 : ClassId), Stand p l e room_1 s m #[(.int p0), (.int p1), (.long p2)] below meth c T L 2 2 ∧ T.heap = h ∧ Fr n0 L ∧ Keep h0 h [] ∧ h0.size ≤ b6 ∧ h0.size ≤ b11 ∧ E_1 Z h b6 ∧ F_0 Z h b6 (.ref b11) ∧ Arv Z h b11 kc12 (.object "java/lang/Long") (1 : Int32) [.null] .null ∧ Ovr Z kc12 "java/lang/Long" ∧ b6 ≠ b11 ∧ (∀ target, Steps p.tables e below (T.setTop (mkF m 101 #[.val (.int p0), .val (.int p1), .val (.long p2), .second, .val (.int 1), .val (.int gq5), .val (.int gq6), .val (.int gq7), .val (.int gq8), .val (.long jam), .second, .val (.long gq11), .second, .val (.ref b6), .unset] [])) target → Steps p.tables e below (T0.setTop (mkF m 90 #[.val (.int p0), .val (.int p1), .val (.long p2), .second, .val (.int 1), .val (.int gq5), .val (.int gq6), .val (.int gq7), .val (.int gq8), .val (.long jam), .second, .val (.long gq11), .second, .unset, .unset] [])) target) := by
  obtain ⟨T1, h1, X1, e1, E1, A1, D1, -, st1⟩ := newO X0 hx hZ hown (tw_1 hw) (tw_2 hw) (tw_3 hw) e0 (g := (mkF m 90 #[.val (.int p0), .val (.int p1), .val (.long p2), .second, .val (.int 1), .val (.int gq5), .val (.int gq6), .val (.int gq7), .val (.int gq8), .val (.long jam), .second, .val (.long gq11), .second, .unset, .unset] [])) rfl (hb hby at_90) (by decide) (by decide)
  obtain ⟨b6, g1⟩ : ∃ z, z = h0.size := ⟨_, rfl⟩
  rw [← g1] at A1 D1 st1
  have sz_b6 : h0.size ≤ b6 := Nat.le_trans (Nat.le_refl _) (Nat.le_of_eq g1.symm)
  have g_b6 : n0 ≤ b6 := Nat.le_trans Z0 sz_b6
  have KK1 : Keep h0 h1 [] := (Keep.refl h0 []).ext E1
  have F1_13 : F_0 Z h1 b6 .null := D1 (Or.inr (tw_13 hw)) (ty := (.array (.object "java/lang/Long"))) (by decide)
  -- pc 96: hexwright/engine/SealedBids.<init>
  obtain ⟨_, _, ⟨T2, L2, k2, n2⟩, -, X2, ⟨Lc2, hQ2, l2, y2, z2⟩, st2⟩ := X1.specialBack hx (y := M_0) rfl hown (mvT hZ (tw_4 hw)) (mvT hZ (tw_5 hw)) (mvT hZ (tw_6 hw)) (by decide) (backOf (W := 1) (rm1_9 l Z a0 hw [] b6 h1 n0 (Nat.le_trans Z0 KK1.1) F1_13 A1 g_b6) hZ (tw_6 hw) (tw_3 hw) (by decide) (by decide)) (g := (mkF m 96 #[.val (.int p0), .val (.int p1), .val (.long p2), .second, .val (.int 1), .val (.int gq5), .val (.int gq6), .val (.int gq7), .val (.int gq8), .val (.long jam), .second, .val (.long gq11), .second, .unset, .unset] [(.int 1), (.ref b6), (.ref b6)])) rfl (by rw [hml]; rfl) (Steps.refl _) (a := b6) (argsL := [(.int 1)]) (rest := [(.ref b6)]) (lenOf pd_0 rfl) rfl (by show 2 * 0 + _ ≤ _; exact Nat.le_of_eq rfl) (hb hby at_96) (fun _ _ => ⟨rfl, e1, (by decide : 1 + 1 ≤ _), (by decide : 1 + 1 ≤ _)⟩)
  dsimp only [Pt.U, Pt.locs, Pt.cells, Pt.slots] at X2 l2 y2 z2 st2 hQ2
  subst l2 y2 z2
  obtain ⟨b11, kc12, rfl, Nq2, K2, le_b11, o2_0, o2_1, o2_2⟩ := hQ2
  have N2 := Fr.app N0 Nq2
  have sz_b11 : h0.size ≤ b11 := Nat.le_trans KK1.1 le_b11
  have g_b11 : n0 ≤ b11 := Nat.le_trans Z0 sz_b11
  have KK2 : Keep h0 T2.heap [] := KK1.trans K2 (fun x hx => (List.mem_cons.mp hx).elim (fun q => q ▸ (Or.inr sz_b6)) (fun hx => nomatch hx))
  have u3 : E_1 Z T2.heap b6 := Exa.keep A1 K2
  have ne4 : b6 ≠ b11 := Nat.ne_of_lt (Nat.lt_of_lt_of_le (Exa.lt A1) le_b11)
  refine ⟨T2, _, _, b6, b11, kc12, X2, rfl, N2, KK2, sz_b6, sz_b11, u3, o2_0, o2_1, o2_2, ne4, fun target kt => ?_⟩
  show Steps p.tables e below (T0.setTop (mkF m 90 #[.val (.int p0), .val (.int p1), .val (.long p2), .second, .val (.int 1), .val (.int gq5), .val (.int gq6), .val (.int gq7), .val (.int gq8), .val (.long jam), .second, .val (.long gq11), .second, .unset, .unset] [])) _
  refine st1 _ ?_
  refine XS.dup X1.here hx rfl (hb hby at_93) rfl rfl ?_
  refine XS.iload X1.here hx rfl (hb hby at_94) rfl ?_
  show Steps p.tables e below (T1.setTop (mkF m 96 #[.val (.int p0), .val (.int p1), .val (.long p2), .second, .val (.int 1), .val (.int gq5), .val (.int gq6), .val (.int gq7), .val (.int gq8), .val (.long jam), .second, .val (.long gq11), .second, .unset, .unset] [(.int 1), (.ref b6), (.ref b6)])) _
  refine st2.trans ?_
  refine XS.astore X2.here hx rfl (hb hby at_99) rfl rfl (l' := #[.val (.int p0), .val (.int p1), .val (.long p2), .second, .val (.int 1), .val (.int gq5), .val (.int gq6), .val (.int gq7), .val (.int gq8), .val (.long jam), .second, .val (.long gq11), .second, .val (.ref b6), .unset]) rfl ?_
  show Steps p.tables e below (T2.setTop (mkF m 101 #[.val (.int p0), .val (.int p1), .val (.long p2), .second, .val (.int 1), .val (.int gq5), .val (.int gq6), .val (.int gq7), .val (.int gq8), .val (.long jam), .second, .val (.long gq11), .second, .val (.ref b6), .unset] [])) _
  exact kt
set_option maxRecDepth 65536 in
set_option maxHeartbeats 40000000 in
theorem sg101_17 {p : Program} {l : Launch} {e : Env} {s : State} {m : MethodId} {below : List Frame} {meth : Method} {c : Code} {T0 : State} {locs : List Loc} {Z : State} {a0 : Array Value} (p0 : Int32) (p1 : Int32) (p2 : Int64) (gq4 : Int32) (gq6 : Int32) (gq7 : Int32) (gq8 : Int32) (jam : Int64) (c0_a : Addr) {h0 : Heap} {n0 : Nat} (X0 : Stand p l e room_1 s m #[(.int p0), (.int p1), (.long p2)] below meth c T0 locs 2 2) (hx : p.tables.exec = Jvm.exec) (hZ : Z.Warmed39 s.vm) (hw : ∀ d ∈ tables_1, d.before a0 Z = true) (hby : c.code = code) (hml : c.maxLocals = 15) (hown : s.vm.findClass "hexwright/engine/SealedBidsHasBidPinLaw" = some m.cls) (e0 : T0.heap = h0) (N0 : Fr n0 locs) (Z0 : n0 ≤ h0.size) :
    ∃ (T : State) (L : List Loc), Stand p l e room_1 s m #[(.int p0), (.int p1), (.long p2)] below meth c T L 3 3 ∧ T.heap = h0 ∧ Fr n0 L ∧ (∀ target, Steps p.tables e below (T.setTop (mkF m 116 #[.val (.int p0), .val (.int p1), .val (.long p2), .second, .val (.int gq4), .val (.int 0), .val (.int gq6), .val (.int gq7), .val (.int gq8), .val (.long jam), .second, .val (.long 9223372036854775807), .second, .val (.ref c0_a), .unset] [])) target → Steps p.tables e below (T0.setTop (mkF m 101 #[.val (.int p0), .val (.int p1), .val (.long p2), .second, .val (.int gq4), .val (.int 0), .val (.int gq6), .val (.int gq7), .val (.int gq8), .val (.long jam), .second, .val (.long 9223372036854775807), .second, .val (.ref c0_a), .unset] [])) target) := by
  refine ⟨T0, _, (X0.more (by decide) (by decide)), e0, N0, fun target kt => ?_⟩
  show Steps p.tables e below (T0.setTop (mkF m 101 #[.val (.int p0), .val (.int p1), .val (.long p2), .second, .val (.int gq4), .val (.int 0), .val (.int gq6), .val (.int gq7), .val (.int gq8), .val (.long jam), .second, .val (.long 9223372036854775807), .second, .val (.ref c0_a), .unset] [])) _
  refine XS.iload X0.here hx rfl (hb hby at_101) rfl ?_
  refine XS.ifYes X0.here hx rfl (pc0 := 103) (pc' := 116) rfl (hb hby at_103) rfl (by decide) (by decide) (by decide) ?_
  show Steps p.tables e below (T0.setTop (mkF m 116 #[.val (.int p0), .val (.int p1), .val (.long p2), .second, .val (.int gq4), .val (.int 0), .val (.int gq6), .val (.int gq7), .val (.int gq8), .val (.long jam), .second, .val (.long 9223372036854775807), .second, .val (.ref c0_a), .unset] [])) _
  exact kt
set_option maxRecDepth 65536 in
set_option maxHeartbeats 40000000 in
theorem sg116_18 {p : Program} {l : Launch} {e : Env} {s : State} {m : MethodId} {below : List Frame} {meth : Method} {c : Code} {T0 : State} {locs : List Loc} {Z : State} {a0 : Array Value} (p0 : Int32) (p1 : Int32) (p2 : Int64) (gq4 : Int32) (gq5 : Int32) (gq7 : Int32) (gq8 : Int32) (jam : Int64) (c0_a : Addr) {h0 : Heap} {n0 : Nat} (X0 : Stand p l e room_1 s m #[(.int p0), (.int p1), (.long p2)] below meth c T0 locs 3 3) (hx : p.tables.exec = Jvm.exec) (hZ : Z.Warmed39 s.vm) (hw : ∀ d ∈ tables_1, d.before a0 Z = true) (hby : c.code = code) (hml : c.maxLocals = 15) (hown : s.vm.findClass "hexwright/engine/SealedBidsHasBidPinLaw" = some m.cls) (e0 : T0.heap = h0) (N0 : Fr n0 locs) (Z0 : n0 ≤ h0.size) :
    ∃ (T : State) (L : List Loc), Stand p l e room_1 s m #[(.int p0), (.int p1), (.long p2)] below meth c T L 4 4 ∧ T.heap = h0 ∧ Fr n0 L ∧ (∀ target, Steps p.tables e below (T.setTop (mkF m 131 #[.val (.int p0), .val (.int p1), .val (.long p2), .second, .val (.int gq4), .val (.int gq5), .val (.int 0), .val (.int gq7), .val (.int gq8), .val (.long jam), .second, .val (.long 9223372036854775807), .second, .val (.ref c0_a), .unset] [])) target → Steps p.tables e below (T0.setTop (mkF m 116 #[.val (.int p0), .val (.int p1), .val (.long p2), .second, .val (.int gq4), .val (.int gq5), .val (.int 0), .val (.int gq7), .val (.int gq8), .val (.long jam), .second, .val (.long 9223372036854775807), .second, .val (.ref c0_a), .unset] [])) target) := by
  refine ⟨T0, _, (X0.more (by decide) (by decide)), e0, N0, fun target kt => ?_⟩
  show Steps p.tables e below (T0.setTop (mkF m 116 #[.val (.int p0), .val (.int p1), .val (.long p2), .second, .val (.int gq4), .val (.int gq5), .val (.int 0), .val (.int gq7), .val (.int gq8), .val (.long jam), .second, .val (.long 9223372036854775807), .second, .val (.ref c0_a), .unset] [])) _
  refine XS.iload X0.here hx rfl (hb hby at_116) rfl ?_
  refine XS.ifYes X0.here hx rfl (pc0 := 118) (pc' := 131) rfl (hb hby at_118) rfl (by decide) (by decide) (by decide) ?_
  show Steps p.tables e below (T0.setTop (mkF m 131 #[.val (.int p0), .val (.int p1), .val (.long p2), .second, .val (.int gq4), .val (.int gq5), .val (.int 0), .val (.int gq7), .val (.int gq8), .val (.long jam), .second, .val (.long 9223372036854775807), .second, .val (.ref c0_a), .unset] [])) _
  exact kt
set_option maxRecDepth 65536 in
set_option maxHeartbeats 40000000 in
theorem sg131_19 {p : Program} {l : Launch} {e : Env} {s : State} {m : MethodId} {below : List Frame} {meth : Method} {c : Code} {T0 : State} {locs : List Loc} {Z : State} {a0 : Array Value} (p0 : Int32) (p1 : Int32) (p2 : Int64) (gq4 : Int32) (gq5 : Int32) (gq6 : Int32) (gq8 : Int32) (jam : Int64) (c0_a : Addr) {h0 : Heap} {n0 : Nat} (X0 : Stand p l e room_1 s m #[(.int p0), (.int p1), (.long p2)] below meth c T0 locs 4 4) (hx : p.tables.exec = Jvm.exec) (hZ : Z.Warmed39 s.vm) (hw : ∀ d ∈ tables_1, d.before a0 Z = true) (hby : c.code = code) (hml : c.maxLocals = 15) (hown : s.vm.findClass "hexwright/engine/SealedBidsHasBidPinLaw" = some m.cls) (e0 : T0.heap = h0) (N0 : Fr n0 locs) (Z0 : n0 ≤ h0.size) :
    ∃ (T : State) (L : List Loc), Stand p l e room_1 s m #[(.int p0), (.int p1), (.long p2)] below meth c T L 5 5 ∧ T.heap = h0 ∧ Fr n0 L ∧ (∀ target, Steps p.tables e below (T.setTop (mkF m 146 #[.val (.int p0), .val (.int p1), .val (.long p2), .second, .val (.int gq4), .val (.int gq5), .val (.int gq6), .val (.int 0), .val (.int gq8), .val (.long jam), .second, .val (.long 9223372036854775807), .second, .val (.ref c0_a), .unset] [])) target → Steps p.tables e below (T0.setTop (mkF m 131 #[.val (.int p0), .val (.int p1), .val (.long p2), .second, .val (.int gq4), .val (.int gq5), .val (.int gq6), .val (.int 0), .val (.int gq8), .val (.long jam), .second, .val (.long 9223372036854775807), .second, .val (.ref c0_a), .unset] [])) target) := by
  refine ⟨T0, _, (X0.more (by decide) (by decide)), e0, N0, fun target kt => ?_⟩
  show Steps p.tables e below (T0.setTop (mkF m 131 #[.val (.int p0), .val (.int p1), .val (.long p2), .second, .val (.int gq4), .val (.int gq5), .val (.int gq6), .val (.int 0), .val (.int gq8), .val (.long jam), .second, .val (.long 9223372036854775807), .second, .val (.ref c0_a), .unset] [])) _
  refine XS.iload X0.here hx rfl (hb hby at_131) rfl ?_
  refine XS.ifYes X0.here hx rfl (pc0 := 133) (pc' := 146) rfl (hb hby at_133) rfl (by decide) (by decide) (by decide) ?_
  show Steps p.tables e below (T0.setTop (mkF m 146 #[.val (.int p0), .val (.int p1), .val (.long p2), .second, .val (.int gq4), .val (.int gq5), .val (.int gq6), .val (.int 0), .val (.int gq8), .val (.long jam), .second, .val (.long 9223372036854775807), .second, .val (.ref c0_a), .unset] [])) _
  exact kt
set_option maxRecDepth 65536 in
set_option maxHeartbeats 40000000 in
theorem sg146_20 {p : Program} {l : Launch} {e : Env} {s : State} {m : MethodId} {below : List Frame} {meth : Method} {c : Code} {T0 : State} {locs : List Loc} {Z : State} {a0 : Array Value} (p0 : Int32) (p1 : Int32) (p2 : Int64) (gq4 : Int32) (gq5 : Int32) (gq6 : Int32) (gq7 : Int32) (jam : Int64) (c0_a : Addr) {h0 : Heap} {n0 : Nat} (X0 : Stand p l e room_1 s m #[(.int p0), (.int p1), (.long p2)] below meth c T0 locs 5 5) (hx : p.tables.exec = Jvm.exec) (hZ : Z.Warmed39 s.vm) (hw : ∀ d ∈ tables_1, d.before a0 Z = true) (hby : c.code = code) (hml : c.maxLocals = 15) (hown : s.vm.findClass "hexwright/engine/SealedBidsHasBidPinLaw" = some m.cls) (e0 : T0.heap = h0) (N0 : Fr n0 locs) (Z0 : n0 ≤ h0.size) :
    ∃ (T : State) (L : List Loc), Stand p l e room_1 s m #[(.int p0), (.int p1), (.long p2)] below meth c T L 6 6 ∧ T.heap = h0 ∧ Fr n0 L ∧ (∀ target, Steps p.tables e below (T.setTop (mkF m 161 #[.val (.int p0), .val (.int p1), .val (.long p2), .second, .val (.int gq4), .val (.int gq5), .val (.int gq6), .val (.int gq7), .val (.int 0), .val (.long jam), .second, .val (.long 9223372036854775807), .second, .val (.ref c0_a), .unset] [])) target → Steps p.tables e below (T0.setTop (mkF m 146 #[.val (.int p0), .val (.int p1), .val (.long p2), .second, .val (.int gq4), .val (.int gq5), .val (.int gq6), .val (.int gq7), .val (.int 0), .val (.long jam), .second, .val (.long 9223372036854775807), .second, .val (.ref c0_a), .unset] [])) target) := by
  refine ⟨T0, _, (X0.more (by decide) (by decide)), e0, N0, fun target kt => ?_⟩
  show Steps p.tables e below (T0.setTop (mkF m 146 #[.val (.int p0), .val (.int p1), .val (.long p2), .second, .val (.int gq4), .val (.int gq5), .val (.int gq6), .val (.int gq7), .val (.int 0), .val (.long jam), .second, .val (.long 9223372036854775807), .second, .val (.ref c0_a), .unset] [])) _
  refine XS.iload X0.here hx rfl (hb hby at_146) rfl ?_
  refine XS.ifYes X0.here hx rfl (pc0 := 148) (pc' := 161) rfl (hb hby at_148) rfl (by decide) (by decide) (by decide) ?_
  show Steps p.tables e below (T0.setTop (mkF m 161 #[.val (.int p0), .val (.int p1), .val (.long p2), .second, .val (.int gq4), .val (.int gq5), .val (.int gq6), .val (.int gq7), .val (.int 0), .val (.long jam), .second, .val (.long 9223372036854775807), .second, .val (.ref c0_a), .unset] [])) _
  exact kt
theorem tw_28 {a0 : Array Value} {Z : State} (hw : ∀ d ∈ tables_1, d.before a0 Z = true) : (Jvm.Cond.methodLink "hexwright/engine/SealedBidsHasBidPinLaw" (20 : Nat) ({ cls := "hexwright/engine/SealedBids", name := "hasBid", desc := "(I)Z" } : Jvm.MethodName)).before a0 Z = true := hw _ (List.mem_of_getElem? (i := 28) rfl)
theorem tw_32 {a0 : Array Value} {Z : State} (hw : ∀ d ∈ tables_1, d.before a0 Z = true) : (Jvm.Cond.code ({ cls := "hexwright/engine/SealedBids", name := "hasBid", desc := "(I)Z" } : Jvm.MethodName) prog_14_method_4_code (2 : Nat) (Option.some Jvm.ClassFile.FieldType.boolean)).before a0 Z = true := hw _ (List.mem_of_getElem? (i := 32) rfl)
theorem d5_0 : decode prog_14_method_4_code 0 = .ok (.aload_n 0, 1) := by decide +kernel
theorem d5_1 : decode prog_14_method_4_code 1 = .ok (.getfield 9, 3) := by decide +kernel
theorem d5_4 : decode prog_14_method_4_code 4 = .ok (.iload_n 1, 1) := by decide +kernel
theorem d5_5 : decode prog_14_method_4_code 5 = .ok (.iconst 1, 1) := by decide +kernel
theorem d5_6 : decode prog_14_method_4_code 6 = .ok (.isub, 1) := by decide +kernel
theorem d5_7 : decode prog_14_method_4_code 7 = .ok (.aaload, 1) := by decide +kernel
theorem d5_8 : decode prog_14_method_4_code 8 = .ok (.ifnull 7, 3) := by decide +kernel
theorem d5_15 : decode prog_14_method_4_code 15 = .ok (.iconst 0, 1) := by decide +kernel
theorem d5_16 : decode prog_14_method_4_code 16 = .ok (.ireturn, 1) := by decide +kernel
abbrev R_0_0_0_0 : Room := { frames := 0, cells := 0, slots := 0, locals := 0 }
abbrev M_1 : MethodName := ⟨"hexwright/engine/SealedBids", "hasBid", "(I)Z"⟩
theorem ef5_RI (m : MethodId) (x0 : Addr) (x1 : Int32) : entryFrame m #[(.ref x0), (.int x1)] 2 = mkF m 0 #[.val (.ref x0), .val (.int x1)] [] := by first | (simp [entryFrame, mkF, argsToLocals, Value.category]; done) | rfl
set_option maxRecDepth 65536 in
set_option maxHeartbeats 40000000 in
theorem rm5_21 (l : Launch) (Z : State) (a0 : Array Value) (hw : ∀ d ∈ tables_1, d.before a0 Z = true) (ws : List Jvm.Cond) (c0_a : Addr) (c1_a : Addr) (c2_k : ClassId) (h0 : Heap) (n0 : Nat) (Z0 : n0 ≤ h0.size) (f1 : F_0 Z h0 c0_a (.ref c1_a)) (f2 : Arv Z h0 c1_a c2_k (.object "java/lang/Long") (1 : Int32) [.null] .null) :
    MetFree l M_1 (head1 (Jvm.Cond.code M_1 prog_14_method_4_code 2 (some .boolean) :: ws) R_0_0_0_0) (fun a U => a = #[(.ref c0_a), (.int 1)] ∧ Z.Warmed39 U.vm ∧ U.heap = h0) (fun _ _ _ _ _ => True) (fun _ U o U' => ∃ v L, o = .returned v ∧ QP (some (.int 0)) h0 n0 v U'.heap L ∧ FrameEnd U o U' L R_0_0_0_0.cells R_0_0_0_0.slots) := by
  refine MetFree.of_bodySF (plainFor_of_name pn_hexwright_engine_SealedBids) hisR ?_
  intro p e s m args below meth c s₁ Bd hml0 hP hK
  obtain ⟨rfl, hZ, hh⟩ := hP
  have hx := Bd.exec
  have hby := Bd.bytes
  have hml : c.maxLocals = 2 := hml0
  have hown : s.vm.findClass "hexwright/engine/SealedBids" = some m.cls := findClass_of_methodNamed Bd.named
  have hnm := (name_of_methodNamed Bd.named Bd.method).1
  have X0 : Stand p l e R_0_0_0_0 s m #[(.ref c0_a), (.int 1)] below meth c s₁ [] 0 0 := Stand.of_body Bd
  have e0 : s₁.heap = h0 := by rw [← hh, Bd.state]; rfl
  have N0 := Fr.nil n0
  obtain ⟨T1, X1, e1, st1⟩ := getF X0 hx hZ hown (host := "") (Or.inl (tw_12 hw)) Via.refl e0 f1 (g := (mkF m 1 #[.val (.ref c0_a), .val (.int 1)] [(.ref c0_a)])) rfl rfl (hb hby d5_1)
  have va2 := f2
  obtain ⟨cl2, Ar2, -, S2, -, H2, -⟩ := va2
  have hin2 : ¬ ((0 : Int32) < 0 ∨ cl2.slots.size ≤ ((0 : Int32)).toNatClampNeg) := inb_of S2 ⟨by decide, by decide⟩
  have hat2 : cl2.slots[((0 : Int32)).toNatClampNeg]? = some .null := H2 _ (Nat.lt_of_not_le fun y => hin2 (Or.inr y))
  obtain ⟨fs, hr, hrun, hended, hW, hsame⟩ := X1.leave (v := (some (.int 0))) (fun h => by rw [Bd.returns] at h; cases h)
  refine ⟨_, _, castTop (ef5_RI m c0_a (1 : Int32)) ?_, hrun, hended, _, _, rfl, ?_, ⟨_, rfl⟩, hW, hsame.mono (by decide) (by decide)⟩
  · show Steps p.tables e below (s₁.setTop (mkF m 0 #[.val (.ref c0_a), .val (.int 1)] [])) _
    refine XS.aloadN X0.here hx rfl (hb hby d5_0) rfl rfl ?_
    show Steps p.tables e below (s₁.setTop (mkF m 1 #[.val (.ref c0_a), .val (.int 1)] [(.ref c0_a)])) _
    refine st1 _ ?_
    refine XS.iloadN X1.here hx rfl (hb hby d5_4) rfl ?_
    refine XS.iconst X1.here hx rfl (hb hby d5_5) ?_
    show Steps p.tables e below (T1.setTop (mkF m 6 #[.val (.ref c0_a), .val (.int 1)] [(.int 1), (.int 1), (.ref c1_a)])) _
    refine XS.isub X1.here hx rfl (hb hby d5_6) rfl ?_
    show Steps p.tables e below (T1.setTop (mkF m 7 #[.val (.ref c0_a), .val (.int 1)] [(.int ((1 : Int32) - (1 : Int32))), (.ref c1_a)])) _
    rw [show ((1 : Int32) - (1 : Int32)) = (0 : Int32) from by decide]
    show Steps p.tables e below (T1.setTop (mkF m 7 #[.val (.ref c0_a), .val (.int 1)] [(.int 0), (.ref c1_a)])) _
    refine X1.aaload hx (j := (0 : Int32)) (v := .null) (by rw [e1]; exact Ar2.1) (State.isArrayOf_alike hZ.alike Ar2.2.1) rfl Ar2.2.2 hin2 hat2 (g := (mkF m 7 #[.val (.ref c0_a), .val (.int 1)] [(.int 0), (.ref c1_a)])) rfl rfl (hb hby d5_7) _ ?_
    refine XS.ifnullYes X1.here hx rfl (pc0 := 8) (pc' := 15) rfl (hb hby d5_8) rfl (by decide) (by decide) ?_
    refine XS.iconst X1.here hx rfl (hb hby d5_15) ?_
    show Steps p.tables e below (T1.setTop (mkF m 16 #[.val (.ref c0_a), .val (.int 1)] [(.int 0)])) _
    exact retN X1 hx (t := .boolean) Bd.returns (by simp) (hb hby d5_16) hr
  · show QP (some (.int 0)) h0 n0 _ T1.heap _
    rw [e1]
    exact ⟨rfl, N0, rfl⟩
theorem pd_1 : parseMethodDescriptor "(I)Z" = some ⟨[.int], some .boolean⟩ := by decide +kernel
theorem tw_31 {a0 : Array Value} {Z : State} (hw : ∀ d ∈ tables_1, d.before a0 Z = true) : (Jvm.Cond.selects "hexwright/engine/SealedBids" ({ cls := "hexwright/engine/SealedBids", name := "hasBid", desc := "(I)Z" } : Jvm.MethodName) ({ cls := "hexwright/engine/SealedBids", name := "hasBid", desc := "(I)Z" } : Jvm.MethodName)).before a0 Z = true := hw _ (List.mem_of_getElem? (i := 31) rfl)
theorem tw_29 {a0 : Array Value} {Z : State} (hw : ∀ d ∈ tables_1, d.before a0 Z = true) : (Jvm.Cond.declares ({ cls := "hexwright/engine/SealedBids", name := "hasBid", desc := "(I)Z" } : Jvm.MethodName)).before a0 Z = true := hw _ (List.mem_of_getElem? (i := 29) rfl)
theorem tw_30 {a0 : Array Value} {Z : State} (hw : ∀ d ∈ tables_1, d.before a0 Z = true) : (Jvm.Cond.instanceMethod ({ cls := "hexwright/engine/SealedBids", name := "hasBid", desc := "(I)Z" } : Jvm.MethodName)).before a0 Z = true := hw _ (List.mem_of_getElem? (i := 30) rfl)
set_option maxRecDepth 65536 in
set_option maxHeartbeats 40000000 in
theorem sg161_22 {p : Program} {l : Launch} {e : Env} {s : State} {m : MethodId} {below : List Frame} {meth : Method} {c : Code} {T0 : State} {locs : List Loc} {Z : State} {a0 : Array Value} (p0 : Int32) (p1 : Int32) (p2 : Int64) (gq4 : Int32) (gq6 : Int32) (gq7 : Int32) (gq8 : Int32) (jam : Int64) (gq11 : Int64) (c0_a : Addr) (c1_a : Addr) (c2_k : ClassId) {h0 : Heap} {n0 : Nat} (X0 : Stand p l e room_1 s m #[(.int p0), (.int p1), (.long p2)] below meth c T0 locs 6 6) (hx : p.tables.exec = Jvm.exec) (hZ : Z.Warmed39 s.vm) (hw : ∀ d ∈ tables_1, d.before a0 Z = true) (hby : c.code = code) (hml : c.maxLocals = 15) (hown : s.vm.findClass "hexwright/engine/SealedBidsHasBidPinLaw" = some m.cls) (e0 : T0.heap = h0) (N0 : Fr n0 locs) (Z0 : n0 ≤ h0.size) (f1 : F_0 Z h0 c0_a (.ref c1_a)) (f2 : Arv Z h0 c1_a c2_k (.object "java/lang/Long") (1 : Int32) [.null] .null) (f3 : E_1 Z h0 c0_a) :
    ∃ (T : State) (L : List Loc), Stand p l e room_1 s m #[(.int p0), (.int p1), (.long p2)] below meth c T L 6 6 ∧ T.heap = h0 ∧ Fr n0 L ∧ (∀ target, Steps p.tables e below (T.setTop (mkF m 179 #[.val (.int p0), .val (.int p1), .val (.long p2), .second, .val (.int gq4), .val (.int 0), .val (.int gq6), .val (.int gq7), .val (.int gq8), .val (.long jam), .second, .val (.long gq11), .second, .val (.ref c0_a), .val (.int 1)] [])) target → Steps p.tables e below (T0.setTop (mkF m 161 #[.val (.int p0), .val (.int p1), .val (.long p2), .second, .val (.int gq4), .val (.int 0), .val (.int gq6), .val (.int gq7), .val (.int gq8), .val (.long jam), .second, .val (.long gq11), .second, .val (.ref c0_a), .unset] [])) target) := by
  -- pc 164: hexwright/engine/SealedBids.hasBid
  obtain ⟨cq1, kq1, q1a, q1b, q1c⟩ := isOf hZ e0 f3
  obtain ⟨_, _, ⟨T1, L1, k1, n1⟩, -, X1, ⟨Lc1, hQ1, l1, y1, z1⟩, st1⟩ := X0.virtualBack hx (y := M_1) (z := M_1) hown (mvT hZ (tw_28 hw)) (mvT hZ (tw_29 hw)) (notFace_of_selects (args := #[]) (mvT hZ (tw_31 hw))) (mvT hZ (tw_31 hw)) (mvT hZ (tw_30 hw)) (by decide) (backOf (W := 0) (rm5_21 l Z a0 hw [] c0_a c1_a c2_k h0 n0 Z0 f1 f2) hZ (tw_32 hw) (tw_3 hw) (by decide) (by decide)) q1a q1c (g := (mkF m 164 #[.val (.int p0), .val (.int p1), .val (.long p2), .second, .val (.int gq4), .val (.int 0), .val (.int gq6), .val (.int gq7), .val (.int gq8), .val (.long jam), .second, .val (.long gq11), .second, .val (.ref c0_a), .unset] [(.int 1), (.ref c0_a)])) rfl (by rw [hml]; rfl) (Steps.refl _) (argsL := [(.int 1)]) (rest := []) (lenOf pd_1 rfl) rfl (by show 2 * 0 + _ ≤ _; exact Nat.le_of_eq rfl) (hb hby at_164) (fun _ _ => ⟨rfl, e0, (by decide : 6 + 0 ≤ _), (by decide : 6 + 0 ≤ _)⟩)
  dsimp only [Pt.U, Pt.locs, Pt.cells, Pt.slots] at X1 l1 y1 z1 st1 hQ1
  subst l1 y1 z1
  obtain ⟨rfl, Nq1, e1⟩ := hQ1
  have N1 := Fr.app N0 Nq1
  refine ⟨T1, _, X1, e1, N1, fun target kt => ?_⟩
  show Steps p.tables e below (T0.setTop (mkF m 161 #[.val (.int p0), .val (.int p1), .val (.long p2), .second, .val (.int gq4), .val (.int 0), .val (.int gq6), .val (.int gq7), .val (.int gq8), .val (.long jam), .second, .val (.long gq11), .second, .val (.ref c0_a), .unset] [])) _
  refine XS.aload X0.here hx rfl (hb hby at_161) rfl rfl ?_
  refine XS.iconst X0.here hx rfl (hb hby at_163) ?_
  show Steps p.tables e below (T0.setTop (mkF m 164 #[.val (.int p0), .val (.int p1), .val (.long p2), .second, .val (.int gq4), .val (.int 0), .val (.int gq6), .val (.int gq7), .val (.int gq8), .val (.long jam), .second, .val (.long gq11), .second, .val (.ref c0_a), .unset] [(.int 1), (.ref c0_a)])) _
  refine st1.trans ?_
  refine XS.iload X1.here hx rfl (hb hby at_167) rfl ?_
  refine XS.icmpNo X1.here hx rfl (hb hby at_169) rfl (by decide) ?_
  refine XS.iconst X1.here hx rfl (hb hby at_172) ?_
  refine XS.goto X1.here hx rfl (pc0 := 173) (pc' := 177) rfl (hb hby at_173) (by decide) (by decide) ?_
  show Steps p.tables e below (T1.setTop (mkF m 177 #[.val (.int p0), .val (.int p1), .val (.long p2), .second, .val (.int gq4), .val (.int 0), .val (.int gq6), .val (.int gq7), .val (.int gq8), .val (.long jam), .second, .val (.long gq11), .second, .val (.ref c0_a), .unset] [(.int 1)])) _
  refine XS.istore X1.here hx rfl (hb hby at_177) rfl (l' := #[.val (.int p0), .val (.int p1), .val (.long p2), .second, .val (.int gq4), .val (.int 0), .val (.int gq6), .val (.int gq7), .val (.int gq8), .val (.long jam), .second, .val (.long gq11), .second, .val (.ref c0_a), .val (.int 1)]) rfl ?_
  show Steps p.tables e below (T1.setTop (mkF m 179 #[.val (.int p0), .val (.int p1), .val (.long p2), .second, .val (.int gq4), .val (.int 0), .val (.int gq6), .val (.int gq7), .val (.int gq8), .val (.long jam), .second, .val (.long gq11), .second, .val (.ref c0_a), .val (.int 1)] [])) _
  exact kt
set_option maxRecDepth 65536 in
set_option maxHeartbeats 40000000 in
theorem sg179_23 {p : Program} {l : Launch} {e : Env} {s : State} {m : MethodId} {below : List Frame} {meth : Method} {c : Code} {T0 : State} {locs : List Loc} {Z : State} {a0 : Array Value} (p0 : Int32) (p1 : Int32) (p2 : Int64) (gq5 : Int32) (gq7 : Int32) (gq8 : Int32) (jam : Int64) (gq11 : Int64) (c0_a : Addr) {h0 : Heap} {n0 : Nat} (X0 : Stand p l e room_1 s m #[(.int p0), (.int p1), (.long p2)] below meth c T0 locs 6 6) (hx : p.tables.exec = Jvm.exec) (hZ : Z.Warmed39 s.vm) (hw : ∀ d ∈ tables_1, d.before a0 Z = true) (hby : c.code = code) (hml : c.maxLocals = 15) (hown : s.vm.findClass "hexwright/engine/SealedBidsHasBidPinLaw" = some m.cls) (e0 : T0.heap = h0) (N0 : Fr n0 locs) (Z0 : n0 ≤ h0.size) :
    ∃ (T : State) (L : List Loc), Stand p l e room_1 s m #[(.int p0), (.int p1), (.long p2)] below meth c T L 6 6 ∧ T.heap = h0 ∧ Fr n0 L ∧ (∀ target, Steps p.tables e below (T.setTop (mkF m 208 #[.val (.int p0), .val (.int p1), .val (.long p2), .second, .val (.int 1), .val (.int gq5), .val (.int 0), .val (.int gq7), .val (.int gq8), .val (.long jam), .second, .val (.long gq11), .second, .val (.ref c0_a), .val (.int 1)] [])) target → Steps p.tables e below (T0.setTop (mkF m 179 #[.val (.int p0), .val (.int p1), .val (.long p2), .second, .val (.int 1), .val (.int gq5), .val (.int 0), .val (.int gq7), .val (.int gq8), .val (.long jam), .second, .val (.long gq11), .second, .val (.ref c0_a), .val (.int 1)] [])) target) := by
  refine ⟨T0, _, X0, e0, N0, fun target kt => ?_⟩
  show Steps p.tables e below (T0.setTop (mkF m 179 #[.val (.int p0), .val (.int p1), .val (.long p2), .second, .val (.int 1), .val (.int gq5), .val (.int 0), .val (.int gq7), .val (.int gq8), .val (.long jam), .second, .val (.long gq11), .second, .val (.ref c0_a), .val (.int 1)] [])) _
  refine XS.iload X0.here hx rfl (hb hby at_179) rfl ?_
  refine XS.iconst X0.here hx rfl (hb hby at_181) ?_
  refine XS.icmpYes X0.here hx rfl (pc0 := 182) (pc' := 208) rfl (hb hby at_182) rfl (by decide) (by decide) (by decide) ?_
  show Steps p.tables e below (T0.setTop (mkF m 208 #[.val (.int p0), .val (.int p1), .val (.long p2), .second, .val (.int 1), .val (.int gq5), .val (.int 0), .val (.int gq7), .val (.int gq8), .val (.long jam), .second, .val (.long gq11), .second, .val (.ref c0_a), .val (.int 1)] [])) _
  exact kt
set_option maxRecDepth 65536 in
set_option maxHeartbeats 40000000 in
theorem sg208_24 {p : Program} {l : Launch} {e : Env} {s : State} {m : MethodId} {below : List Frame} {meth : Method} {c : Code} {T0 : State} {locs : List Loc} {Z : State} {a0 : Array Value} (p0 : Int32) (p1 : Int32) (p2 : Int64) (gq5 : Int32) (gq6 : Int32) (gq8 : Int32) (jam : Int64) (gq11 : Int64) (c0_a : Addr) {h0 : Heap} {n0 : Nat} (X0 : Stand p l e room_1 s m #[(.int p0), (.int p1), (.long p2)] below meth c T0 locs 6 6) (hx : p.tables.exec = Jvm.exec) (hZ : Z.Warmed39 s.vm) (hw : ∀ d ∈ tables_1, d.before a0 Z = true) (hby : c.code = code) (hml : c.maxLocals = 15) (hown : s.vm.findClass "hexwright/engine/SealedBidsHasBidPinLaw" = some m.cls) (e0 : T0.heap = h0) (N0 : Fr n0 locs) (Z0 : n0 ≤ h0.size) :
    ∃ (T : State) (L : List Loc), Stand p l e room_1 s m #[(.int p0), (.int p1), (.long p2)] below meth c T L 6 6 ∧ T.heap = h0 ∧ Fr n0 L ∧ (∀ target, Steps p.tables e below (T.setTop (mkF m 237 #[.val (.int p0), .val (.int p1), .val (.long p2), .second, .val (.int 1), .val (.int gq5), .val (.int gq6), .val (.int 0), .val (.int gq8), .val (.long jam), .second, .val (.long gq11), .second, .val (.ref c0_a), .val (.int 1)] [])) target → Steps p.tables e below (T0.setTop (mkF m 208 #[.val (.int p0), .val (.int p1), .val (.long p2), .second, .val (.int 1), .val (.int gq5), .val (.int gq6), .val (.int 0), .val (.int gq8), .val (.long jam), .second, .val (.long gq11), .second, .val (.ref c0_a), .val (.int 1)] [])) target) := by
  refine ⟨T0, _, X0, e0, N0, fun target kt => ?_⟩
  show Steps p.tables e below (T0.setTop (mkF m 208 #[.val (.int p0), .val (.int p1), .val (.long p2), .second, .val (.int 1), .val (.int gq5), .val (.int gq6), .val (.int 0), .val (.int gq8), .val (.long jam), .second, .val (.long gq11), .second, .val (.ref c0_a), .val (.int 1)] [])) _
  refine XS.iload X0.here hx rfl (hb hby at_208) rfl ?_
  refine XS.iconst X0.here hx rfl (hb hby at_210) ?_
  refine XS.icmpYes X0.here hx rfl (pc0 := 211) (pc' := 237) rfl (hb hby at_211) rfl (by decide) (by decide) (by decide) ?_
  show Steps p.tables e below (T0.setTop (mkF m 237 #[.val (.int p0), .val (.int p1), .val (.long p2), .second, .val (.int 1), .val (.int gq5), .val (.int gq6), .val (.int 0), .val (.int gq8), .val (.long jam), .second, .val (.long gq11), .second, .val (.ref c0_a), .val (.int 1)] [])) _
  exact kt
set_option maxRecDepth 65536 in
set_option maxHeartbeats 40000000 in
theorem sg237_25 {p : Program} {l : Launch} {e : Env} {s : State} {m : MethodId} {below : List Frame} {meth : Method} {c : Code} {T0 : State} {locs : List Loc} {Z : State} {a0 : Array Value} (p0 : Int32) (p1 : Int32) (p2 : Int64) (gq5 : Int32) (gq6 : Int32) (gq7 : Int32) (jam : Int64) (gq11 : Int64) (c0_a : Addr) {h0 : Heap} {n0 : Nat} (X0 : Stand p l e room_1 s m #[(.int p0), (.int p1), (.long p2)] below meth c T0 locs 6 6) (hx : p.tables.exec = Jvm.exec) (hZ : Z.Warmed39 s.vm) (hw : ∀ d ∈ tables_1, d.before a0 Z = true) (hby : c.code = code) (hml : c.maxLocals = 15) (hown : s.vm.findClass "hexwright/engine/SealedBidsHasBidPinLaw" = some m.cls) (e0 : T0.heap = h0) (N0 : Fr n0 locs) (Z0 : n0 ≤ h0.size) :
    ∃ (T : State) (L : List Loc), Stand p l e room_1 s m #[(.int p0), (.int p1), (.long p2)] below meth c T L 6 6 ∧ T.heap = h0 ∧ Fr n0 L ∧ (∀ target, Steps p.tables e below (T.setTop (mkF m 266 #[.val (.int p0), .val (.int p1), .val (.long p2), .second, .val (.int 1), .val (.int gq5), .val (.int gq6), .val (.int gq7), .val (.int 0), .val (.long jam), .second, .val (.long gq11), .second, .val (.ref c0_a), .val (.int 1)] [])) target → Steps p.tables e below (T0.setTop (mkF m 237 #[.val (.int p0), .val (.int p1), .val (.long p2), .second, .val (.int 1), .val (.int gq5), .val (.int gq6), .val (.int gq7), .val (.int 0), .val (.long jam), .second, .val (.long gq11), .second, .val (.ref c0_a), .val (.int 1)] [])) target) := by
  refine ⟨T0, _, X0, e0, N0, fun target kt => ?_⟩
  show Steps p.tables e below (T0.setTop (mkF m 237 #[.val (.int p0), .val (.int p1), .val (.long p2), .second, .val (.int 1), .val (.int gq5), .val (.int gq6), .val (.int gq7), .val (.int 0), .val (.long jam), .second, .val (.long gq11), .second, .val (.ref c0_a), .val (.int 1)] [])) _
  refine XS.iload X0.here hx rfl (hb hby at_237) rfl ?_
  refine XS.iconst X0.here hx rfl (hb hby at_239) ?_
  refine XS.icmpYes X0.here hx rfl (pc0 := 240) (pc' := 266) rfl (hb hby at_240) rfl (by decide) (by decide) (by decide) ?_
  show Steps p.tables e below (T0.setTop (mkF m 266 #[.val (.int p0), .val (.int p1), .val (.long p2), .second, .val (.int 1), .val (.int gq5), .val (.int gq6), .val (.int gq7), .val (.int 0), .val (.long jam), .second, .val (.long gq11), .second, .val (.ref c0_a), .val (.int 1)] [])) _
  exact kt
theorem ef0_IIJ (m : MethodId) (x0 : Int32) (x1 : Int32) (x2 : Int64) : entryFrame m #[(.int x0), (.int x1), (.long x2)] maxLocals = mkF m 0 #[.val (.int x0), .val (.int x1), .val (.long x2), .second, .unset, .unset, .unset, .unset, .unset, .unset, .unset, .unset, .unset, .unset, .unset] [] := by first | (simp [entryFrame, mkF, argsToLocals, Value.category, maxLocals]; done) | rfl
theorem pn_hexwright_engine_SealedBidsHasBidPinLaw : plainName "hexwright/engine/SealedBidsHasBidPinLaw" = true := by first | (simp [plainName, overriddenIn]; done) | decide +kernel
set_option maxRecDepth 65536 in
set_option maxHeartbeats 40000000 in
theorem rm0_26 (l : Launch) (Z : State) (a0 : Array Value) (hw : ∀ d ∈ tables_1, d.before a0 Z = true) (ws : List Jvm.Cond) (p0 : Int32) (p1 : Int32) (p2 : Int64) (jam : Int64) (h0 : Heap) (n0 : Nat) (Z0 : n0 ≤ h0.size) (f1 : (p0 &&& (3 : Int32)) = (0 : Int32)) (f2 : (p1 &&& (1 : Int32)) = (0 : Int32)) (f3 : (p2 &&& (9223372036854775807 : Int64)) = jam) :
    MetFree l x (head1 (Jvm.Cond.code x code maxLocals ret :: ws) room_1) (fun a U => a = #[(.int p0), (.int p1), (.long p2)] ∧ Z.Warmed39 U.vm ∧ U.heap = h0) (fun _ _ _ _ _ => True) (fun _ U o U' => ∃ v L, o = .returned v ∧ QT n0 v U'.heap L ∧ FrameEnd U o U' L room_1.cells room_1.slots) := by
  refine MetFree.of_bodySF (plainFor_of_name pn_hexwright_engine_SealedBidsHasBidPinLaw) hisR ?_
  intro p e s m args below meth c s₁ Bd hml0 hP hK
  obtain ⟨rfl, hZ, hh⟩ := hP
  have hx := Bd.exec
  have hby := Bd.bytes
  have hml : c.maxLocals = 15 := hml0
  have hown : s.vm.findClass "hexwright/engine/SealedBidsHasBidPinLaw" = some m.cls := findClass_of_methodNamed Bd.named
  have hnm := (name_of_methodNamed Bd.named Bd.method).1
  have X0 : Stand p l e room_1 s m #[(.int p0), (.int p1), (.long p2)] below meth c s₁ [] 0 0 := Stand.of_body Bd
  have e0 : s₁.heap = h0 := by rw [← hh, Bd.state]; rfl
  have N0 := Fr.nil n0
  obtain ⟨T1, L1, X1, e1, N1, st1⟩ := sg7_1 p0 p1 p2 (1 : Int32) X0 hx hZ hw hby hml hown e0 N0 Z0 f2
  obtain ⟨T2, L2, X2, e2, N2, st2⟩ := sg20_2 p0 p1 p2 (0 : Int32) X1 hx hZ hw hby hml hown e1 N1 Z0 
  obtain ⟨T3, L3, X3, e3, N3, st3⟩ := sg39_3 p0 p1 p2 (0 : Int32) (0 : Int32) X2 hx hZ hw hby hml hown e2 N2 Z0 
  obtain ⟨T4, L4, X4, e4, N4, st4⟩ := sg58_4 p0 p1 p2 (0 : Int32) (0 : Int32) (0 : Int32) X3 hx hZ hw hby hml hown e3 N3 Z0 
  obtain ⟨T5, L5, X5, e5, N5, st5⟩ := sg78_5 p0 p1 p2 (1 : Int32) (0 : Int32) (0 : Int32) (0 : Int32) (0 : Int32) jam X4 hx hZ hw hby hml hown e4 N4 Z0 f3
  obtain ⟨T6, h6, L6, b14, b15, kc16, X6, e6, N6, K6, le_b14, le_b15, o6_0, o6_1, o6_2, o6_3, o6_4, st6⟩ := sg90_13 p0 p1 p2 (0 : Int32) (0 : Int32) (0 : Int32) (0 : Int32) jam (9223372036854775807 : Int64) X5 hx hZ hw hby hml hown e5 N5 Z0 
  have sz_b14 : h0.size ≤ b14 := Nat.le_trans (Nat.le_refl _) le_b14
  have g_b14 : n0 ≤ b14 := Nat.le_trans Z0 sz_b14
  have sz_b15 : h0.size ≤ b15 := Nat.le_trans (Nat.le_refl _) le_b15
  have g_b15 : n0 ≤ b15 := Nat.le_trans Z0 sz_b15
  have KK6 : Keep h0 h6 [] := (Keep.refl h0 []).trans K6 (fun x hx => nomatch hx)
  obtain ⟨T7, L7, X7, e7, N7, st7⟩ := sg101_17 p0 p1 p2 (1 : Int32) (0 : Int32) (0 : Int32) (0 : Int32) jam b14 X6 hx hZ hw hby hml hown e6 N6 (Nat.le_trans Z0 KK6.1) 
  obtain ⟨T8, L8, X8, e8, N8, st8⟩ := sg116_18 p0 p1 p2 (1 : Int32) (0 : Int32) (0 : Int32) (0 : Int32) jam b14 X7 hx hZ hw hby hml hown e7 N7 (Nat.le_trans Z0 KK6.1) 
  obtain ⟨T9, L9, X9, e9, N9, st9⟩ := sg131_19 p0 p1 p2 (1 : Int32) (0 : Int32) (0 : Int32) (0 : Int32) jam b14 X8 hx hZ hw hby hml hown e8 N8 (Nat.le_trans Z0 KK6.1) 
  obtain ⟨T10, L10, X10, e10, N10, st10⟩ := sg146_20 p0 p1 p2 (1 : Int32) (0 : Int32) (0 : Int32) (0 : Int32) jam b14 X9 hx hZ hw hby hml hown e9 N9 (Nat.le_trans Z0 KK6.1) 
  obtain ⟨T11, L11, X11, e11, N11, st11⟩ := sg161_22 p0 p1 p2 (1 : Int32) (0 : Int32) (0 : Int32) (0 : Int32) jam (9223372036854775807 : Int64) b14 b15 kc16 X10 hx hZ hw hby hml hown e10 N10 (Nat.le_trans Z0 KK6.1) o6_1 o6_2 o6_0
  obtain ⟨T12, L12, X12, e12, N12, st12⟩ := sg179_23 p0 p1 p2 (0 : Int32) (0 : Int32) (0 : Int32) jam (9223372036854775807 : Int64) b14 X11 hx hZ hw hby hml hown e11 N11 (Nat.le_trans Z0 KK6.1) 
  obtain ⟨T13, L13, X13, e13, N13, st13⟩ := sg208_24 p0 p1 p2 (0 : Int32) (0 : Int32) (0 : Int32) jam (9223372036854775807 : Int64) b14 X12 hx hZ hw hby hml hown e12 N12 (Nat.le_trans Z0 KK6.1) 
  obtain ⟨T14, L14, X14, e14, N14, st14⟩ := sg237_25 p0 p1 p2 (0 : Int32) (0 : Int32) (0 : Int32) jam (9223372036854775807 : Int64) b14 X13 hx hZ hw hby hml hown e13 N13 (Nat.le_trans Z0 KK6.1) 
  obtain ⟨fs, hr, hrun, hended, hW, hsame⟩ := X14.leave (v := (some (.int 1))) (fun h => by rw [Bd.returns] at h; cases h)
  refine ⟨_, _, castTop (ef0_IIJ m p0 p1 p2) ?_, hrun, hended, _, _, rfl, ?_, ⟨_, rfl⟩, hW, hsame.mono (by decide) (by decide)⟩
  · show Steps p.tables e below (s₁.setTop (mkF m 0 #[.val (.int p0), .val (.int p1), .val (.long p2), .second, .unset, .unset, .unset, .unset, .unset, .unset, .unset, .unset, .unset, .unset, .unset] [])) _
    refine XS.iloadN X0.here hx rfl (hb hby at_0) rfl ?_
    refine XS.iconst X0.here hx rfl (hb hby at_1) ?_
    show Steps p.tables e below (s₁.setTop (mkF m 2 #[.val (.int p0), .val (.int p1), .val (.long p2), .second, .unset, .unset, .unset, .unset, .unset, .unset, .unset, .unset, .unset, .unset, .unset] [(.int 3), (.int p0)])) _
    refine XS.iand X0.here hx rfl (hb hby at_2) rfl ?_
    show Steps p.tables e below (s₁.setTop (mkF m 3 #[.val (.int p0), .val (.int p1), .val (.long p2), .second, .unset, .unset, .unset, .unset, .unset, .unset, .unset, .unset, .unset, .unset, .unset] [(.int (p0 &&& (3 : Int32)))])) _
    rw [f1]
    refine XS.iconst X0.here hx rfl (hb hby at_3) ?_
    show Steps p.tables e below (s₁.setTop (mkF m 4 #[.val (.int p0), .val (.int p1), .val (.long p2), .second, .unset, .unset, .unset, .unset, .unset, .unset, .unset, .unset, .unset, .unset, .unset] [(.int 1), (.int 0)])) _
    refine XS.iadd X0.here hx rfl (hb hby at_4) rfl ?_
    show Steps p.tables e below (s₁.setTop (mkF m 5 #[.val (.int p0), .val (.int p1), .val (.long p2), .second, .unset, .unset, .unset, .unset, .unset, .unset, .unset, .unset, .unset, .unset, .unset] [(.int ((0 : Int32) + (1 : Int32)))])) _
    rw [show ((0 : Int32) + (1 : Int32)) = (1 : Int32) from by decide]
    refine XS.istore X0.here hx rfl (hb hby at_5) rfl (l' := #[.val (.int p0), .val (.int p1), .val (.long p2), .second, .val (.int 1), .unset, .unset, .unset, .unset, .unset, .unset, .unset, .unset, .unset, .unset]) rfl ?_
    show Steps p.tables e below (s₁.setTop (mkF m 7 #[.val (.int p0), .val (.int p1), .val (.long p2), .second, .val (.int 1), .unset, .unset, .unset, .unset, .unset, .unset, .unset, .unset, .unset, .unset] [])) _
    refine st1 _ ?_
    show Steps p.tables e below (T1.setTop (mkF m 20 #[.val (.int p0), .val (.int p1), .val (.long p2), .second, .val (.int 1), .val (.int 0), .unset, .unset, .unset, .unset, .unset, .unset, .unset, .unset, .unset] [])) _
    refine st2 _ ?_
    show Steps p.tables e below (T2.setTop (mkF m 39 #[.val (.int p0), .val (.int p1), .val (.long p2), .second, .val (.int 1), .val (.int 0), .val (.int 0), .unset, .unset, .unset, .unset, .unset, .unset, .unset, .unset] [])) _
    refine st3 _ ?_
    show Steps p.tables e below (T3.setTop (mkF m 58 #[.val (.int p0), .val (.int p1), .val (.long p2), .second, .val (.int 1), .val (.int 0), .val (.int 0), .val (.int 0), .unset, .unset, .unset, .unset, .unset, .unset, .unset] [])) _
    refine st4 _ ?_
    show Steps p.tables e below (T4.setTop (mkF m 78 #[.val (.int p0), .val (.int p1), .val (.long p2), .second, .val (.int 1), .val (.int 0), .val (.int 0), .val (.int 0), .val (.int 0), .unset, .unset, .unset, .unset, .unset, .unset] [])) _
    refine st5 _ ?_
    show Steps p.tables e below (T5.setTop (mkF m 90 #[.val (.int p0), .val (.int p1), .val (.long p2), .second, .val (.int 1), .val (.int 0), .val (.int 0), .val (.int 0), .val (.int 0), .val (.long jam), .second, .val (.long 9223372036854775807), .second, .unset, .unset] [])) _
    refine st6 _ ?_
    show Steps p.tables e below (T6.setTop (mkF m 101 #[.val (.int p0), .val (.int p1), .val (.long p2), .second, .val (.int 1), .val (.int 0), .val (.int 0), .val (.int 0), .val (.int 0), .val (.long jam), .second, .val (.long 9223372036854775807), .second, .val (.ref b14), .unset] [])) _
    refine st7 _ ?_
    show Steps p.tables e below (T7.setTop (mkF m 116 #[.val (.int p0), .val (.int p1), .val (.long p2), .second, .val (.int 1), .val (.int 0), .val (.int 0), .val (.int 0), .val (.int 0), .val (.long jam), .second, .val (.long 9223372036854775807), .second, .val (.ref b14), .unset] [])) _
    refine st8 _ ?_
    show Steps p.tables e below (T8.setTop (mkF m 131 #[.val (.int p0), .val (.int p1), .val (.long p2), .second, .val (.int 1), .val (.int 0), .val (.int 0), .val (.int 0), .val (.int 0), .val (.long jam), .second, .val (.long 9223372036854775807), .second, .val (.ref b14), .unset] [])) _
    refine st9 _ ?_
    show Steps p.tables e below (T9.setTop (mkF m 146 #[.val (.int p0), .val (.int p1), .val (.long p2), .second, .val (.int 1), .val (.int 0), .val (.int 0), .val (.int 0), .val (.int 0), .val (.long jam), .second, .val (.long 9223372036854775807), .second, .val (.ref b14), .unset] [])) _
    refine st10 _ ?_
    show Steps p.tables e below (T10.setTop (mkF m 161 #[.val (.int p0), .val (.int p1), .val (.long p2), .second, .val (.int 1), .val (.int 0), .val (.int 0), .val (.int 0), .val (.int 0), .val (.long jam), .second, .val (.long 9223372036854775807), .second, .val (.ref b14), .unset] [])) _
    refine st11 _ ?_
    show Steps p.tables e below (T11.setTop (mkF m 179 #[.val (.int p0), .val (.int p1), .val (.long p2), .second, .val (.int 1), .val (.int 0), .val (.int 0), .val (.int 0), .val (.int 0), .val (.long jam), .second, .val (.long 9223372036854775807), .second, .val (.ref b14), .val (.int 1)] [])) _
    refine st12 _ ?_
    show Steps p.tables e below (T12.setTop (mkF m 208 #[.val (.int p0), .val (.int p1), .val (.long p2), .second, .val (.int 1), .val (.int 0), .val (.int 0), .val (.int 0), .val (.int 0), .val (.long jam), .second, .val (.long 9223372036854775807), .second, .val (.ref b14), .val (.int 1)] [])) _
    refine st13 _ ?_
    show Steps p.tables e below (T13.setTop (mkF m 237 #[.val (.int p0), .val (.int p1), .val (.long p2), .second, .val (.int 1), .val (.int 0), .val (.int 0), .val (.int 0), .val (.int 0), .val (.long jam), .second, .val (.long 9223372036854775807), .second, .val (.ref b14), .val (.int 1)] [])) _
    refine st14 _ ?_
    refine XS.iload X14.here hx rfl (hb hby at_266) rfl ?_
    show Steps p.tables e below (T14.setTop (mkF m 268 #[.val (.int p0), .val (.int p1), .val (.long p2), .second, .val (.int 1), .val (.int 0), .val (.int 0), .val (.int 0), .val (.int 0), .val (.long jam), .second, .val (.long 9223372036854775807), .second, .val (.ref b14), .val (.int 1)] [(.int 1)])) _
    exact retN X14 hx (t := .boolean) Bd.returns (by simp) (hb hby at_268) hr
  · show QT n0 _ T14.heap _
    rw [e14]
    exact ⟨rfl, N14⟩
set_option maxRecDepth 65536 in
set_option maxHeartbeats 40000000 in
theorem sg7_27 {p : Program} {l : Launch} {e : Env} {s : State} {m : MethodId} {below : List Frame} {meth : Method} {c : Code} {T0 : State} {locs : List Loc} {Z : State} {a0 : Array Value} (p0 : Int32) (p1 : Int32) (p2 : Int64) (gq4 : Int32) {h0 : Heap} {n0 : Nat} (X0 : Stand p l e room_1 s m #[(.int p0), (.int p1), (.long p2)] below meth c T0 locs 0 0) (hx : p.tables.exec = Jvm.exec) (hZ : Z.Warmed39 s.vm) (hw : ∀ d ∈ tables_1, d.before a0 Z = true) (hby : c.code = code) (hml : c.maxLocals = 15) (hown : s.vm.findClass "hexwright/engine/SealedBidsHasBidPinLaw" = some m.cls) (e0 : T0.heap = h0) (N0 : Fr n0 locs) (Z0 : n0 ≤ h0.size) (f1 : ¬ ((p1 &&& (1 : Int32)) = (0 : Int32))) :
    ∃ (T : State) (L : List Loc), Stand p l e room_1 s m #[(.int p0), (.int p1), (.long p2)] below meth c T L 0 0 ∧ T.heap = h0 ∧ Fr n0 L ∧ (∀ target, Steps p.tables e below (T.setTop (mkF m 20 #[.val (.int p0), .val (.int p1), .val (.long p2), .second, .val (.int gq4), .val (.int 1), .unset, .unset, .unset, .unset, .unset, .unset, .unset, .unset, .unset] [])) target → Steps p.tables e below (T0.setTop (mkF m 7 #[.val (.int p0), .val (.int p1), .val (.long p2), .second, .val (.int gq4), .unset, .unset, .unset, .unset, .unset, .unset, .unset, .unset, .unset, .unset] [])) target) := by
  refine ⟨T0, _, X0, e0, N0, fun target kt => ?_⟩
  show Steps p.tables e below (T0.setTop (mkF m 7 #[.val (.int p0), .val (.int p1), .val (.long p2), .second, .val (.int gq4), .unset, .unset, .unset, .unset, .unset, .unset, .unset, .unset, .unset, .unset] [])) _
  refine XS.iloadN X0.here hx rfl (hb hby at_7) rfl ?_
  refine XS.iconst X0.here hx rfl (hb hby at_8) ?_
  show Steps p.tables e below (T0.setTop (mkF m 9 #[.val (.int p0), .val (.int p1), .val (.long p2), .second, .val (.int gq4), .unset, .unset, .unset, .unset, .unset, .unset, .unset, .unset, .unset, .unset] [(.int 1), (.int p1)])) _
  refine XS.iand X0.here hx rfl (hb hby at_9) rfl ?_
  refine XS.ifNo X0.here hx rfl (hb hby at_10) rfl ((if0 _ _).trans (feq (f1 : ¬ ((p1 &&& (1 : Int32)) = (0 : Int32)))).1) ?_
  refine XS.iconst X0.here hx rfl (hb hby at_13) ?_
  refine XS.goto X0.here hx rfl (pc0 := 14) (pc' := 18) rfl (hb hby at_14) (by decide) (by decide) ?_
  refine XS.istore X0.here hx rfl (hb hby at_18) rfl (l' := #[.val (.int p0), .val (.int p1), .val (.long p2), .second, .val (.int gq4), .val (.int 1), .unset, .unset, .unset, .unset, .unset, .unset, .unset, .unset, .unset]) rfl ?_
  show Steps p.tables e below (T0.setTop (mkF m 20 #[.val (.int p0), .val (.int p1), .val (.long p2), .second, .val (.int gq4), .val (.int 1), .unset, .unset, .unset, .unset, .unset, .unset, .unset, .unset, .unset] [])) _
  exact kt
theorem tw_14 {a0 : Array Value} {Z : State} (hw : ∀ d ∈ tables_1, d.before a0 Z = true) : (Jvm.Cond.methodLink "hexwright/engine/SealedBidsHasBidPinLaw" (16 : Nat) ({ cls := "hexwright/engine/SealedBids", name := "bid", desc := "(IJJ)V" } : Jvm.MethodName)).before a0 Z = true := hw _ (List.mem_of_getElem? (i := 14) rfl)
theorem tw_18 {a0 : Array Value} {Z : State} (hw : ∀ d ∈ tables_1, d.before a0 Z = true) : (Jvm.Cond.code ({ cls := "hexwright/engine/SealedBids", name := "bid", desc := "(IJJ)V" } : Jvm.MethodName) prog_14_method_2_code (6 : Nat) (Option.none : Option Jvm.ClassFile.FieldType)).before a0 Z = true := hw _ (List.mem_of_getElem? (i := 18) rfl)
theorem d3_0 : decode prog_14_method_2_code 0 = .ok (.aload_n 0, 1) := by decide +kernel
theorem d3_1 : decode prog_14_method_2_code 1 = .ok (.getfield 9, 3) := by decide +kernel
theorem d3_4 : decode prog_14_method_2_code 4 = .ok (.iload_n 1, 1) := by decide +kernel
theorem d3_5 : decode prog_14_method_2_code 5 = .ok (.iconst 1, 1) := by decide +kernel
theorem d3_6 : decode prog_14_method_2_code 6 = .ok (.isub, 1) := by decide +kernel
theorem d3_7 : decode prog_14_method_2_code 7 = .ok (.aaload, 1) := by decide +kernel
theorem d3_8 : decode prog_14_method_2_code 8 = .ok (.ifnull 17, 3) := by decide +kernel
theorem d3_25 : decode prog_14_method_2_code 25 = .ok (.lload_n 2, 1) := by decide +kernel
theorem d3_26 : decode prog_14_method_2_code 26 = .ok (.lconst 0, 1) := by decide +kernel
theorem d3_27 : decode prog_14_method_2_code 27 = .ok (.lcmp, 1) := by decide +kernel
theorem d3_28 : decode prog_14_method_2_code 28 = .ok (.ifCond .lt 10, 3) := by decide +kernel
theorem d3_31 : decode prog_14_method_2_code 31 = .ok (.lload_n 2, 1) := by decide +kernel
theorem d3_32 : decode prog_14_method_2_code 32 = .ok (.lload 4, 2) := by decide +kernel
theorem d3_34 : decode prog_14_method_2_code 34 = .ok (.lcmp, 1) := by decide +kernel
theorem d3_35 : decode prog_14_method_2_code 35 = .ok (.ifCond .le 20, 3) := by decide +kernel
theorem d3_55 : decode prog_14_method_2_code 55 = .ok (.aload_n 0, 1) := by decide +kernel
theorem d3_56 : decode prog_14_method_2_code 56 = .ok (.getfield 9, 3) := by decide +kernel
theorem d3_59 : decode prog_14_method_2_code 59 = .ok (.iload_n 1, 1) := by decide +kernel
theorem d3_60 : decode prog_14_method_2_code 60 = .ok (.iconst 1, 1) := by decide +kernel
theorem d3_61 : decode prog_14_method_2_code 61 = .ok (.isub, 1) := by decide +kernel
theorem d3_62 : decode prog_14_method_2_code 62 = .ok (.lload_n 2, 1) := by decide +kernel
theorem d3_63 : decode prog_14_method_2_code 63 = .ok (.invokestatic 27, 3) := by decide +kernel
theorem tw_19 {a0 : Array Value} {Z : State} (hw : ∀ d ∈ tables_1, d.before a0 Z = true) : (Jvm.Cond.methodLink "hexwright/engine/SealedBids" (27 : Nat) ({ cls := "java/lang/Long", name := "valueOf", desc := "(J)Ljava/lang/Long;" } : Jvm.MethodName)).before a0 Z = true := hw _ (List.mem_of_getElem? (i := 19) rfl)
theorem tw_22 {a0 : Array Value} {Z : State} (hw : ∀ d ∈ tables_1, d.before a0 Z = true) : (Jvm.Cond.code ({ cls := "java/lang/Long", name := "valueOf", desc := "(J)Ljava/lang/Long;" } : Jvm.MethodName) jdk_35_method_24_code (3 : Nat) (Option.some (Jvm.ClassFile.FieldType.object "java/lang/Long"))).before a0 Z = true := hw _ (List.mem_of_getElem? (i := 22) rfl)
theorem d4_0 : decode jdk_35_method_24_code 0 = .ok (.sipush 128, 3) := by decide +kernel
theorem d4_3 : decode jdk_35_method_24_code 3 = .ok (.istore_n 2, 1) := by decide +kernel
theorem d4_4 : decode jdk_35_method_24_code 4 = .ok (.lload_n 0, 1) := by decide +kernel
theorem d4_5 : decode jdk_35_method_24_code 5 = .ok (.ldc2_w 230, 3) := by decide +kernel
theorem tw_23 {a0 : Array Value} {Z : State} (hw : ∀ d ∈ tables_1, d.before a0 Z = true) : (Jvm.Cond.constantLong "java/lang/Long" (230 : Nat) (-128 : Int64)).before a0 Z = true := hw _ (List.mem_of_getElem? (i := 23) rfl)
theorem d4_8 : decode jdk_35_method_24_code 8 = .ok (.lcmp, 1) := by decide +kernel
theorem d4_9 : decode jdk_35_method_24_code 9 = .ok (.ifCond .lt 22, 3) := by decide +kernel
theorem d4_12 : decode jdk_35_method_24_code 12 = .ok (.lload_n 0, 1) := by decide +kernel
theorem d4_13 : decode jdk_35_method_24_code 13 = .ok (.ldc2_w 232, 3) := by decide +kernel
theorem tw_24 {a0 : Array Value} {Z : State} (hw : ∀ d ∈ tables_1, d.before a0 Z = true) : (Jvm.Cond.constantLong "java/lang/Long" (232 : Nat) (127 : Int64)).before a0 Z = true := hw _ (List.mem_of_getElem? (i := 24) rfl)
theorem d4_16 : decode jdk_35_method_24_code 16 = .ok (.lcmp, 1) := by decide +kernel
theorem d4_17 : decode jdk_35_method_24_code 17 = .ok (.ifCond .gt 14, 3) := by decide +kernel
theorem d4_31 : decode jdk_35_method_24_code 31 = .ok (.new 1, 3) := by decide +kernel
theorem tw_33 {a0 : Array Value} {Z : State} (hw : ∀ d ∈ tables_1, d.before a0 Z = true) : (Jvm.Cond.classLink "java/lang/Long" (1 : Nat) "java/lang/Long").before a0 Z = true := hw _ (List.mem_of_getElem? (i := 33) rfl)
theorem tw_34 {a0 : Array Value} {Z : State} (hw : ∀ d ∈ tables_1, d.before a0 Z = true) : (Jvm.Cond.instantiable "java/lang/Long" (1 : Nat)).before a0 Z = true := hw _ (List.mem_of_getElem? (i := 34) rfl)
theorem tw_21 {a0 : Array Value} {Z : State} (hw : ∀ d ∈ tables_1, d.before a0 Z = true) : (Jvm.Cond.initialized "java/lang/Long").before a0 Z = true := hw _ (List.mem_of_getElem? (i := 21) rfl)
abbrev E_2 (Z : State) (h : Heap) (a : Addr) : Prop := Exa Z h a "java/lang/Long"
abbrev F_1 (Z : State) (h : Heap) (a : Addr) (v : Value) : Prop := Fld Z h a "java/lang/Long" "value" "J" v
theorem tw_46 {a0 : Array Value} {Z : State} (hw : ∀ d ∈ tables_1, d.before a0 Z = true) : (Jvm.Cond.laysFinal "java/lang/Long" "java/lang/Long" "value" "J").before a0 Z = true := hw _ (List.mem_of_getElem? (i := 46) rfl)
theorem d4_34 : decode jdk_35_method_24_code 34 = .ok (.dup, 1) := by decide +kernel
theorem d4_35 : decode jdk_35_method_24_code 35 = .ok (.lload_n 0, 1) := by decide +kernel
theorem d4_36 : decode jdk_35_method_24_code 36 = .ok (.invokespecial 240, 3) := by decide +kernel
theorem tw_35 {a0 : Array Value} {Z : State} (hw : ∀ d ∈ tables_1, d.before a0 Z = true) : (Jvm.Cond.methodLink "java/lang/Long" (240 : Nat) ({ cls := "java/lang/Long", name := "<init>", desc := "(J)V" } : Jvm.MethodName)).before a0 Z = true := hw _ (List.mem_of_getElem? (i := 35) rfl)
theorem tw_37 {a0 : Array Value} {Z : State} (hw : ∀ d ∈ tables_1, d.before a0 Z = true) : (Jvm.Cond.code ({ cls := "java/lang/Long", name := "<init>", desc := "(J)V" } : Jvm.MethodName) jdk_35_method_26_code (3 : Nat) (Option.none : Option Jvm.ClassFile.FieldType)).before a0 Z = true := hw _ (List.mem_of_getElem? (i := 37) rfl)
theorem d6_0 : decode jdk_35_method_26_code 0 = .ok (.aload_n 0, 1) := by decide +kernel
theorem d6_1 : decode jdk_35_method_26_code 1 = .ok (.invokespecial 270, 3) := by decide +kernel
theorem tw_38 {a0 : Array Value} {Z : State} (hw : ∀ d ∈ tables_1, d.before a0 Z = true) : (Jvm.Cond.methodLink "java/lang/Long" (270 : Nat) ({ cls := "java/lang/Number", name := "<init>", desc := "()V" } : Jvm.MethodName)).before a0 Z = true := hw _ (List.mem_of_getElem? (i := 38) rfl)
theorem tw_43 {a0 : Array Value} {Z : State} (hw : ∀ d ∈ tables_1, d.before a0 Z = true) : (Jvm.Cond.code ({ cls := "java/lang/Number", name := "<init>", desc := "()V" } : Jvm.MethodName) jdk_18_method_1_code (1 : Nat) (Option.none : Option Jvm.ClassFile.FieldType)).before a0 Z = true := hw _ (List.mem_of_getElem? (i := 43) rfl)
theorem d7_0 : decode jdk_18_method_1_code 0 = .ok (.aload_n 0, 1) := by decide +kernel
theorem d7_1 : decode jdk_18_method_1_code 1 = .ok (.invokespecial 1, 3) := by decide +kernel
theorem tw_44 {a0 : Array Value} {Z : State} (hw : ∀ d ∈ tables_1, d.before a0 Z = true) : (Jvm.Cond.methodLink "java/lang/Number" (1 : Nat) ({ cls := "java/lang/Object", name := "<init>", desc := "()V" } : Jvm.MethodName)).before a0 Z = true := hw _ (List.mem_of_getElem? (i := 44) rfl)
theorem d7_4 : decode jdk_18_method_1_code 4 = .ok (.return_, 1) := by decide +kernel
abbrev R_1_0_0_12 : Room := { frames := 1, cells := 0, slots := 0, locals := 12 }
abbrev M_2 : MethodName := ⟨"java/lang/Number", "<init>", "()V"⟩
theorem ef7_R (m : MethodId) (x0 : Addr) : entryFrame m #[(.ref x0)] 1 = mkF m 0 #[.val (.ref x0)] [] := by first | (simp [entryFrame, mkF, argsToLocals, Value.category]; done) | rfl
theorem pn_java_lang_Number : plainName "java/lang/Number" = true := by first | (simp [plainName, overriddenIn]; done) | decide +kernel
set_option maxRecDepth 65536 in
set_option maxHeartbeats 40000000 in
theorem rm7_32 (l : Launch) (Z : State) (a0 : Array Value) (hw : ∀ d ∈ tables_1, d.before a0 Z = true) (ws : List Jvm.Cond) (c0_a : Addr) (h0 : Heap) (n0 : Nat) (Z0 : n0 ≤ h0.size) :
    MetFree l M_2 (head1 (Jvm.Cond.code M_2 jdk_18_method_1_code 1 none :: ws) R_1_0_0_12) (fun a U => a = #[(.ref c0_a)] ∧ Z.Warmed39 U.vm ∧ U.heap = h0) (fun _ _ _ _ _ => True) (fun _ U o U' => ∃ v L, o = .returned v ∧ QP none h0 n0 v U'.heap L ∧ FrameEnd U o U' L R_1_0_0_12.cells R_1_0_0_12.slots) := by
  refine MetFree.of_bodySF (plainFor_of_name pn_java_lang_Number) hisR ?_
  intro p e s m args below meth c s₁ Bd hml0 hP hK
  obtain ⟨rfl, hZ, hh⟩ := hP
  have hx := Bd.exec
  have hby := Bd.bytes
  have hml : c.maxLocals = 1 := hml0
  have hown : s.vm.findClass "java/lang/Number" = some m.cls := findClass_of_methodNamed Bd.named
  have hnm := (name_of_methodNamed Bd.named Bd.method).1
  have X0 : Stand p l e R_1_0_0_12 s m #[(.ref c0_a)] below meth c s₁ [] 0 0 := Stand.of_body Bd
  have e0 : s₁.heap = h0 := by rw [← hh, Bd.state]; rfl
  have N0 := Fr.nil n0
  obtain ⟨T1, X1, e1, st1⟩ := initO X0 hx hZ hown (tw_44 hw) (tw_8 hw) (tw_9 hw) e0 (g := (mkF m 1 #[.val (.ref c0_a)] [(.ref c0_a)])) rfl (by rw [hml]; rfl) rfl (hb hby d7_1) (by decide) (W := 0) (by show 2 * 0 + _ ≤ _; exact Nat.le_of_eq rfl) (by decide)
  obtain ⟨fs, hr, hrun, hended, hW, hsame⟩ := X1.leave (v := none) (fun _ => rfl)
  refine ⟨_, _, castTop (ef7_R m c0_a) ?_, hrun, hended, _, _, rfl, ?_, ⟨_, rfl⟩, hW, hsame.mono (by decide) (by decide)⟩
  · show Steps p.tables e below (s₁.setTop (mkF m 0 #[.val (.ref c0_a)] [])) _
    refine XS.aloadN X0.here hx rfl (hb hby d7_0) rfl rfl ?_
    show Steps p.tables e below (s₁.setTop (mkF m 1 #[.val (.ref c0_a)] [(.ref c0_a)])) _
    refine st1 _ ?_
    show Steps p.tables e below (T1.setTop (mkF m 4 #[.val (.ref c0_a)] [])) _
    exact X1.returnOut hx Bd.returns (hb hby d7_4) hr
  · show QP none h0 n0 _ T1.heap _
    rw [e1]
    exact ⟨rfl, N0, rfl⟩
theorem tw_42 {a0 : Array Value} {Z : State} (hw : ∀ d ∈ tables_1, d.before a0 Z = true) : (Jvm.Cond.initialized "java/lang/Number").before a0 Z = true := hw _ (List.mem_of_getElem? (i := 42) rfl)
theorem pd_2 : parseMethodDescriptor "()V" = some ⟨[], none⟩ := by decide +kernel
theorem tw_39 {a0 : Array Value} {Z : State} (hw : ∀ d ∈ tables_1, d.before a0 Z = true) : (Jvm.Cond.instanceMethod ({ cls := "java/lang/Number", name := "<init>", desc := "()V" } : Jvm.MethodName)).before a0 Z = true := hw _ (List.mem_of_getElem? (i := 39) rfl)
theorem d6_4 : decode jdk_35_method_26_code 4 = .ok (.aload_n 0, 1) := by decide +kernel
theorem d6_5 : decode jdk_35_method_26_code 5 = .ok (.lload_n 1, 1) := by decide +kernel
theorem d6_6 : decode jdk_35_method_26_code 6 = .ok (.putfield 273, 3) := by decide +kernel
theorem tw_45 {a0 : Array Value} {Z : State} (hw : ∀ d ∈ tables_1, d.before a0 Z = true) : (Jvm.Cond.fieldLink "java/lang/Long" (273 : Nat) "java/lang/Long" "value" "J").before a0 Z = true := hw _ (List.mem_of_getElem? (i := 45) rfl)
theorem d6_9 : decode jdk_35_method_26_code 9 = .ok (.return_, 1) := by decide +kernel
abbrev R_2_0_0_24 : Room := { frames := 2, cells := 0, slots := 0, locals := 24 }
abbrev M_3 : MethodName := ⟨"java/lang/Long", "<init>", "(J)V"⟩
theorem ef6_RJ (m : MethodId) (x0 : Addr) (x1 : Int64) : entryFrame m #[(.ref x0), (.long x1)] 3 = mkF m 0 #[.val (.ref x0), .val (.long x1), .second] [] := by first | (simp [entryFrame, mkF, argsToLocals, Value.category]; done) | rfl
def Q6_34 (Z : State) (c0_a : Addr) (jam : Int64) (h0 : Heap) (n0 : Nat) (v : Option Value) (h : Heap) (L : List Loc) : Prop := v = none ∧ Fr n0 L ∧ Keep h0 h [c0_a] ∧ F_1 Z h c0_a (.long jam)
theorem pn_java_lang_Long : plainName "java/lang/Long" = true := by first | (simp [plainName, overriddenIn]; done) | decide +kernel
set_option maxRecDepth 65536 in
set_option maxHeartbeats 40000000 in
theorem rm6_33 (l : Launch) (Z : State) (a0 : Array Value) (hw : ∀ d ∈ tables_1, d.before a0 Z = true) (ws : List Jvm.Cond) (c0_a : Addr) (jam : Int64) (h0 : Heap) (n0 : Nat) (Z0 : n0 ≤ h0.size) (f1 : F_1 Z h0 c0_a (.long 0)) (f2 : E_2 Z h0 c0_a) (f3 : n0 ≤ c0_a) :
    MetFree l M_3 (head1 (Jvm.Cond.code M_3 jdk_35_method_26_code 3 none :: ws) R_2_0_0_24) (fun a U => a = #[(.ref c0_a), (.long jam)] ∧ Z.Warmed39 U.vm ∧ U.heap = h0) (fun _ _ _ _ _ => True) (fun _ U o U' => ∃ v L, o = .returned v ∧ Q6_34 Z c0_a jam h0 n0 v U'.heap L ∧ FrameEnd U o U' L R_2_0_0_24.cells R_2_0_0_24.slots) := by
  refine MetFree.of_bodySF (plainFor_of_name pn_java_lang_Long) hisR ?_
  intro p e s m args below meth c s₁ Bd hml0 hP hK
  obtain ⟨rfl, hZ, hh⟩ := hP
  have hx := Bd.exec
  have hby := Bd.bytes
  have hml : c.maxLocals = 3 := hml0
  have hown : s.vm.findClass "java/lang/Long" = some m.cls := findClass_of_methodNamed Bd.named
  have hnm := (name_of_methodNamed Bd.named Bd.method).1
  have X0 : Stand p l e R_2_0_0_24 s m #[(.ref c0_a), (.long jam)] below meth c s₁ [] 0 0 := Stand.of_body Bd
  have e0 : s₁.heap = h0 := by rw [← hh, Bd.state]; rfl
  have N0 := Fr.nil n0
  -- pc 1: java/lang/Number.<init>
  obtain ⟨_, _, ⟨T1, L1, k1, n1⟩, -, X1, ⟨Lc1, hQ1, l1, y1, z1⟩, st1⟩ := X0.specialBack hx (y := M_2) rfl hown (mvT hZ (tw_38 hw)) (mvT hZ (tw_39 hw)) (mvT hZ (tw_43 hw)) (by decide) (backOf (W := 0) (rm7_32 l Z a0 hw [] c0_a h0 n0 Z0 ) hZ (tw_43 hw) (tw_42 hw) (by decide) (by decide)) (g := (mkF m 1 #[.val (.ref c0_a), .val (.long jam), .second] [(.ref c0_a)])) rfl (by rw [hml]; rfl) (Steps.refl _) (a := c0_a) (argsL := []) (rest := []) (lenOf pd_2 rfl) rfl (by show 2 * 0 + _ ≤ _; exact Nat.le_of_eq rfl) (hb hby d6_1) (fun _ _ => ⟨rfl, e0, (by decide : 0 + 0 ≤ _), (by decide : 0 + 0 ≤ _)⟩)
  dsimp only [Pt.U, Pt.locs, Pt.cells, Pt.slots] at X1 l1 y1 z1 st1 hQ1
  subst l1 y1 z1
  obtain ⟨rfl, Nq1, e1⟩ := hQ1
  have N1 := Fr.app N0 Nq1
  obtain ⟨T2, h2, X2, e2, W2, st2⟩ := putF X1 hx hZ hown (host := "") (Or.inl (tw_45 hw)) Via.refl e1 f1 f2 (Or.inr ⟨(tw_46 hw), rfl, hnm⟩) (tw_34 hw) (ty := .long) (by decide) rfl rfl (g := (mkF m 6 #[.val (.ref c0_a), .val (.long jam), .second] [(.long jam), (.ref c0_a)])) rfl rfl (hb hby d6_6)
  have Fw2 : F_1 Z h2 c0_a (.long jam) := Fld.same W2 f1
  have KK2 : Keep h0 h2 [c0_a] := (Keep.refl h0 [c0_a]).wr W2 (Or.inl (List.mem_of_getElem? (i := 0) rfl))
  have N2 := Fr.snoc X2 N1 f3
  obtain ⟨fs, hr, hrun, hended, hW, hsame⟩ := X2.leave (v := none) (fun _ => rfl)
  refine ⟨_, _, castTop (ef6_RJ m c0_a jam) ?_, hrun, hended, _, _, rfl, ?_, ⟨_, rfl⟩, hW, hsame.mono (by decide) (by decide)⟩
  · show Steps p.tables e below (s₁.setTop (mkF m 0 #[.val (.ref c0_a), .val (.long jam), .second] [])) _
    refine XS.aloadN X0.here hx rfl (hb hby d6_0) rfl rfl ?_
    show Steps p.tables e below (s₁.setTop (mkF m 1 #[.val (.ref c0_a), .val (.long jam), .second] [(.ref c0_a)])) _
    refine st1.trans ?_
    refine XS.aloadN X1.here hx rfl (hb hby d6_4) rfl rfl ?_
    refine XS.lloadN X1.here hx rfl (hb hby d6_5) rfl ?_
    show Steps p.tables e below (T1.setTop (mkF m 6 #[.val (.ref c0_a), .val (.long jam), .second] [(.long jam), (.ref c0_a)])) _
    refine st2 _ ?_
    show Steps p.tables e below (T2.setTop (mkF m 9 #[.val (.ref c0_a), .val (.long jam), .second] [])) _
    exact X2.returnOut hx Bd.returns (hb hby d6_9) hr
  · show Q6_34 Z c0_a jam h0 n0 _ T2.heap _
    rw [e2]
    exact ⟨rfl, N2, KK2, Fw2⟩
theorem pd_3 : parseMethodDescriptor "(J)V" = some ⟨[.long], none⟩ := by decide +kernel
theorem tw_36 {a0 : Array Value} {Z : State} (hw : ∀ d ∈ tables_1, d.before a0 Z = true) : (Jvm.Cond.instanceMethod ({ cls := "java/lang/Long", name := "<init>", desc := "(J)V" } : Jvm.MethodName)).before a0 Z = true := hw _ (List.mem_of_getElem? (i := 36) rfl)
theorem d4_39 : decode jdk_35_method_24_code 39 = .ok (.areturn, 1) := by decide +kernel
abbrev R_3_1_1_39 : Room := { frames := 3, cells := 1, slots := 1, locals := 39 }
abbrev M_4 : MethodName := ⟨"java/lang/Long", "valueOf", "(J)Ljava/lang/Long;"⟩
theorem ef4_J (m : MethodId) (x0 : Int64) : entryFrame m #[(.long x0)] 3 = mkF m 0 #[.val (.long x0), .second, .unset] [] := by first | (simp [entryFrame, mkF, argsToLocals, Value.category]; done) | rfl
def Q4_36 (Z : State) (jam : Int64) (h0 : Heap) (n0 : Nat) (v : Option Value) (h : Heap) (L : List Loc) : Prop := ∃ (b31 : Addr), v = (some (.ref b31)) ∧ Fr n0 L ∧ Keep h0 h [] ∧ h0.size ≤ b31 ∧ E_2 Z h b31 ∧ F_1 Z h b31 (.long jam)
set_option maxRecDepth 65536 in
set_option maxHeartbeats 40000000 in
theorem rm4_35 (l : Launch) (Z : State) (a0 : Array Value) (hw : ∀ d ∈ tables_1, d.before a0 Z = true) (ws : List Jvm.Cond) (jam : Int64) (h0 : Heap) (n0 : Nat) (Z0 : n0 ≤ h0.size) (f1 : ¬ ((lcmpW jam (-128 : Int64)) < (0 : Int32))) (f2 : (0 : Int32) < (lcmpW jam (127 : Int64))) :
    MetFree l M_4 (head1 (Jvm.Cond.code M_4 jdk_35_method_24_code 3 (some (.object "java/lang/Long")) :: ws) R_3_1_1_39) (fun a U => a = #[(.long jam)] ∧ Z.Warmed39 U.vm ∧ U.heap = h0) (fun _ _ _ _ _ => True) (fun _ U o U' => ∃ v L, o = .returned v ∧ Q4_36 Z jam h0 n0 v U'.heap L ∧ FrameEnd U o U' L R_3_1_1_39.cells R_3_1_1_39.slots) := by
  refine MetFree.of_bodySF (plainFor_of_name pn_java_lang_Long) hisR ?_
  intro p e s m args below meth c s₁ Bd hml0 hP hK
  obtain ⟨rfl, hZ, hh⟩ := hP
  have hx := Bd.exec
  have hby := Bd.bytes
  have hml : c.maxLocals = 3 := hml0
  have hown : s.vm.findClass "java/lang/Long" = some m.cls := findClass_of_methodNamed Bd.named
  have hnm := (name_of_methodNamed Bd.named Bd.method).1
  have X0 : Stand p l e R_3_1_1_39 s m #[(.long jam)] below meth c s₁ [] 0 0 := Stand.of_body Bd
  have e0 : s₁.heap = h0 := by rw [← hh, Bd.state]; rfl
  have N0 := Fr.nil n0
  obtain ⟨T1, h1, X1, e1, E1, A1, D1, -, st1⟩ := newO X0 hx hZ hown (tw_33 hw) (tw_34 hw) (tw_21 hw) e0 (g := (mkF m 31 #[.val (.long jam), .second, .val (.int 128)] [])) rfl (hb hby d4_31) (by decide) (by decide)
  obtain ⟨b31, g1⟩ : ∃ z, z = h0.size := ⟨_, rfl⟩
  rw [← g1] at A1 D1 st1
  have sz_b31 : h0.size ≤ b31 := Nat.le_trans (Nat.le_refl _) (Nat.le_of_eq g1.symm)
  have g_b31 : n0 ≤ b31 := Nat.le_trans Z0 sz_b31
  have KK1 : Keep h0 h1 [] := (Keep.refl h0 []).ext E1
  have F1_46 : F_1 Z h1 b31 (.long 0) := D1 (Or.inr (tw_46 hw)) (ty := .long) (by decide)
  -- pc 36: java/lang/Long.<init>
  obtain ⟨_, _, ⟨T2, L2, k2, n2⟩, -, X2, ⟨Lc2, hQ2, l2, y2, z2⟩, st2⟩ := X1.specialBack hx (y := M_3) rfl hown (mvT hZ (tw_35 hw)) (mvT hZ (tw_36 hw)) (mvT hZ (tw_37 hw)) (by decide) (backOf (W := 1) (rm6_33 l Z a0 hw [] b31 jam h1 n0 (Nat.le_trans Z0 KK1.1) F1_46 A1 g_b31) hZ (tw_37 hw) (tw_21 hw) (by decide) (by decide)) (g := (mkF m 36 #[.val (.long jam), .second, .val (.int 128)] [(.long jam), (.ref b31), (.ref b31)])) rfl (by rw [hml]; rfl) (Steps.refl _) (a := b31) (argsL := [(.long jam)]) (rest := [(.ref b31)]) (lenOf pd_3 rfl) rfl (by show 2 * 0 + _ ≤ _; exact Nat.le_of_eq rfl) (hb hby d4_36) (fun _ _ => ⟨rfl, e1, (by decide : 1 + 0 ≤ _), (by decide : 1 + 0 ≤ _)⟩)
  dsimp only [Pt.U, Pt.locs, Pt.cells, Pt.slots] at X2 l2 y2 z2 st2 hQ2
  subst l2 y2 z2
  obtain ⟨rfl, Nq2, K2, o2_0⟩ := hQ2
  have N2 := Fr.app N0 Nq2
  have KK2 : Keep h0 T2.heap [] := KK1.trans K2 (fun x hx => (List.mem_cons.mp hx).elim (fun q => q ▸ (Or.inr sz_b31)) (fun hx => nomatch hx))
  have u3 : E_2 Z T2.heap b31 := Exa.keep A1 K2
  obtain ⟨fs, hr, hrun, hended, hW, hsame⟩ := X2.leave (v := (some (.ref b31))) (fun h => by rw [Bd.returns] at h; cases h)
  refine ⟨_, _, castTop (ef4_J m jam) ?_, hrun, hended, _, _, rfl, ?_, ⟨_, rfl⟩, hW, hsame.mono (by decide) (by decide)⟩
  · show Steps p.tables e below (s₁.setTop (mkF m 0 #[.val (.long jam), .second, .unset] [])) _
    refine XS.sipush X0.here hx rfl (hb hby d4_0) ?_
    refine XS.istoreN X0.here hx rfl (hb hby d4_3) rfl (l' := #[.val (.long jam), .second, .val (.int 128)]) rfl ?_
    refine XS.lloadN X0.here hx rfl (hb hby d4_4) rfl ?_
    show Steps p.tables e below (s₁.setTop (mkF m 5 #[.val (.long jam), .second, .val (.int 128)] [(.long jam)])) _
    refine X0.ldc2Long hx hown (mvT hZ (tw_23 hw)) (g := (mkF m 5 #[.val (.long jam), .second, .val (.int 128)] [(.long jam)])) rfl (hb hby d4_5) _ ?_
    show Steps p.tables e below (s₁.setTop (mkF m 8 #[.val (.long jam), .second, .val (.int 128)] [(.long (-128)), (.long jam)])) _
    refine XS.lcmp X0.here hx rfl (hb hby d4_8) rfl ?_
    refine XS.ifNo X0.here hx rfl (hb hby d4_9) rfl ((if0 _ _).trans (flt (f1 : ¬ ((lcmpW jam (-128 : Int64)) < (0 : Int32)))).1) ?_
    refine XS.lloadN X0.here hx rfl (hb hby d4_12) rfl ?_
    show Steps p.tables e below (s₁.setTop (mkF m 13 #[.val (.long jam), .second, .val (.int 128)] [(.long jam)])) _
    refine X0.ldc2Long hx hown (mvT hZ (tw_24 hw)) (g := (mkF m 13 #[.val (.long jam), .second, .val (.int 128)] [(.long jam)])) rfl (hb hby d4_13) _ ?_
    show Steps p.tables e below (s₁.setTop (mkF m 16 #[.val (.long jam), .second, .val (.int 128)] [(.long 127), (.long jam)])) _
    refine XS.lcmp X0.here hx rfl (hb hby d4_16) rfl ?_
    refine XS.ifYes X0.here hx rfl (pc0 := 17) (pc' := 31) rfl (hb hby d4_17) rfl ((if0 _ _).trans (tlt (f2 : (0 : Int32) < (lcmpW jam (127 : Int64)))).2.2.1) (by decide) (by decide) ?_
    show Steps p.tables e below (s₁.setTop (mkF m 31 #[.val (.long jam), .second, .val (.int 128)] [])) _
    refine st1 _ ?_
    refine XS.dup X1.here hx rfl (hb hby d4_34) rfl rfl ?_
    refine XS.lloadN X1.here hx rfl (hb hby d4_35) rfl ?_
    show Steps p.tables e below (T1.setTop (mkF m 36 #[.val (.long jam), .second, .val (.int 128)] [(.long jam), (.ref b31), (.ref b31)])) _
    refine st2.trans ?_
    show Steps p.tables e below (T2.setTop (mkF m 39 #[.val (.long jam), .second, .val (.int 128)] [(.ref b31)])) _
    jvm_step X2.here [X2.here.top, hx, (hb hby d4_39), X2.method', Bd.returns, Value.isRef, FieldType.isReference]
    first | (intro acts; rw [hr _ acts rfl rfl rfl]) | rw [hr _ _ rfl rfl rfl]
    exact Steps.refl _
  · show Q4_36 Z jam h0 n0 _ T2.heap _
    exact ⟨b31, rfl, N2, KK2, sz_b31, u3, o2_0⟩
theorem d4_20 : decode jdk_35_method_24_code 20 = .ok (.getstatic 234, 3) := by decide +kernel
theorem tw_25 {a0 : Array Value} {Z : State} (hw : ∀ d ∈ tables_1, d.before a0 Z = true) : (Jvm.Cond.fieldLink "java/lang/Long" (234 : Nat) "java/lang/Long$LongCache" "cache" "[Ljava/lang/Long;").before a0 Z = true := hw _ (List.mem_of_getElem? (i := 25) rfl)
theorem d4_23 : decode jdk_35_method_24_code 23 = .ok (.lload_n 0, 1) := by decide +kernel
theorem d4_24 : decode jdk_35_method_24_code 24 = .ok (.l2i, 1) := by decide +kernel
theorem d4_25 : decode jdk_35_method_24_code 25 = .ok (.sipush 128, 3) := by decide +kernel
theorem d4_28 : decode jdk_35_method_24_code 28 = .ok (.iadd, 1) := by decide +kernel
theorem d4_29 : decode jdk_35_method_24_code 29 = .ok (.aaload, 1) := by decide +kernel
theorem d4_30 : decode jdk_35_method_24_code 30 = .ok (.areturn, 1) := by decide +kernel
set_option maxRecDepth 65536 in
set_option maxHeartbeats 40000000 in
theorem rm4_37 (l : Launch) (Z : State) (a0 : Array Value) (hw : ∀ d ∈ tables_1, d.before a0 Z = true) (ws : List Jvm.Cond) (jam : Int64) (a_cache : Addr) (vb : Addr) (h0 : Heap) (n0 : Nat) (Z0 : n0 ≤ h0.size) (f1 : ¬ ((lcmpW jam (-128 : Int64)) < (0 : Int32))) (f2 : ¬ ((0 : Int32) < (lcmpW jam (127 : Int64)))) (f3 : S_0 Z h0 (.ref a_cache)) (f4 : ∃ cl : Cell, Arr Z h0 a_cache cl (.object "java/lang/Long") ∧ ¬ (((jam.toInt32) + (128 : Int32)) < 0 ∨ cl.slots.size ≤ (((jam.toInt32) + (128 : Int32))).toNatClampNeg) ∧ cl.slots[(((jam.toInt32) + (128 : Int32))).toNatClampNeg]? = some (.ref vb)) :
    MetFree l M_4 (head1 (Jvm.Cond.code M_4 jdk_35_method_24_code 3 (some (.object "java/lang/Long")) :: ws) R_3_1_1_39) (fun a U => a = #[(.long jam)] ∧ Z.Warmed39 U.vm ∧ U.heap = h0) (fun _ _ _ _ _ => True) (fun _ U o U' => ∃ v L, o = .returned v ∧ QP (some (.ref vb)) h0 n0 v U'.heap L ∧ FrameEnd U o U' L R_3_1_1_39.cells R_3_1_1_39.slots) := by
  refine MetFree.of_bodySF (plainFor_of_name pn_java_lang_Long) hisR ?_
  intro p e s m args below meth c s₁ Bd hml0 hP hK
  obtain ⟨rfl, hZ, hh⟩ := hP
  have hx := Bd.exec
  have hby := Bd.bytes
  have hml : c.maxLocals = 3 := hml0
  have hown : s.vm.findClass "java/lang/Long" = some m.cls := findClass_of_methodNamed Bd.named
  have hnm := (name_of_methodNamed Bd.named Bd.method).1
  have X0 : Stand p l e R_3_1_1_39 s m #[(.long jam)] below meth c s₁ [] 0 0 := Stand.of_body Bd
  have e0 : s₁.heap = h0 := by rw [← hh, Bd.state]; rfl
  have N0 := Fr.nil n0
  obtain ⟨T1, X1, e1, st1⟩ := getS2 X0 hx hZ hown (host := "") (Or.inl (tw_25 hw)) Via.refl e0 f3 (g := (mkF m 20 #[.val (.long jam), .second, .val (.int 128)] [])) rfl (hb hby d4_20)
  have va2 := f4
  obtain ⟨cl2, Ar2, hin2, hat2⟩ := va2
  obtain ⟨fs, hr, hrun, hended, hW, hsame⟩ := X1.leave (v := (some (.ref vb))) (fun h => by rw [Bd.returns] at h; cases h)
  refine ⟨_, _, castTop (ef4_J m jam) ?_, hrun, hended, _, _, rfl, ?_, ⟨_, rfl⟩, hW, hsame.mono (by decide) (by decide)⟩
  · show Steps p.tables e below (s₁.setTop (mkF m 0 #[.val (.long jam), .second, .unset] [])) _
    refine XS.sipush X0.here hx rfl (hb hby d4_0) ?_
    refine XS.istoreN X0.here hx rfl (hb hby d4_3) rfl (l' := #[.val (.long jam), .second, .val (.int 128)]) rfl ?_
    refine XS.lloadN X0.here hx rfl (hb hby d4_4) rfl ?_
    show Steps p.tables e below (s₁.setTop (mkF m 5 #[.val (.long jam), .second, .val (.int 128)] [(.long jam)])) _
    refine X0.ldc2Long hx hown (mvT hZ (tw_23 hw)) (g := (mkF m 5 #[.val (.long jam), .second, .val (.int 128)] [(.long jam)])) rfl (hb hby d4_5) _ ?_
    show Steps p.tables e below (s₁.setTop (mkF m 8 #[.val (.long jam), .second, .val (.int 128)] [(.long (-128)), (.long jam)])) _
    refine XS.lcmp X0.here hx rfl (hb hby d4_8) rfl ?_
    refine XS.ifNo X0.here hx rfl (hb hby d4_9) rfl ((if0 _ _).trans (flt (f1 : ¬ ((lcmpW jam (-128 : Int64)) < (0 : Int32)))).1) ?_
    refine XS.lloadN X0.here hx rfl (hb hby d4_12) rfl ?_
    show Steps p.tables e below (s₁.setTop (mkF m 13 #[.val (.long jam), .second, .val (.int 128)] [(.long jam)])) _
    refine X0.ldc2Long hx hown (mvT hZ (tw_24 hw)) (g := (mkF m 13 #[.val (.long jam), .second, .val (.int 128)] [(.long jam)])) rfl (hb hby d4_13) _ ?_
    show Steps p.tables e below (s₁.setTop (mkF m 16 #[.val (.long jam), .second, .val (.int 128)] [(.long 127), (.long jam)])) _
    refine XS.lcmp X0.here hx rfl (hb hby d4_16) rfl ?_
    refine XS.ifNo X0.here hx rfl (hb hby d4_17) rfl ((if0 _ _).trans (flt (f2 : ¬ ((0 : Int32) < (lcmpW jam (127 : Int64))))).2.2.1) ?_
    show Steps p.tables e below (s₁.setTop (mkF m 20 #[.val (.long jam), .second, .val (.int 128)] [])) _
    refine st1 _ ?_
    refine XS.lloadN X1.here hx rfl (hb hby d4_23) rfl ?_
    show Steps p.tables e below (T1.setTop (mkF m 24 #[.val (.long jam), .second, .val (.int 128)] [(.long jam), (.ref a_cache)])) _
    refine XS.l2i X1.here hx rfl (hb hby d4_24) rfl ?_
    refine XS.sipush X1.here hx rfl (hb hby d4_25) ?_
    show Steps p.tables e below (T1.setTop (mkF m 28 #[.val (.long jam), .second, .val (.int 128)] [(.int 128), (.int (jam.toInt32)), (.ref a_cache)])) _
    refine XS.iadd X1.here hx rfl (hb hby d4_28) rfl ?_
    show Steps p.tables e below (T1.setTop (mkF m 29 #[.val (.long jam), .second, .val (.int 128)] [(.int ((jam.toInt32) + (128 : Int32))), (.ref a_cache)])) _
    refine X1.aaload hx (j := ((jam.toInt32) + (128 : Int32))) (v := (.ref vb)) (by rw [e1]; exact Ar2.1) (State.isArrayOf_alike hZ.alike Ar2.2.1) rfl Ar2.2.2 hin2 hat2 (g := (mkF m 29 #[.val (.long jam), .second, .val (.int 128)] [(.int ((jam.toInt32) + (128 : Int32))), (.ref a_cache)])) rfl rfl (hb hby d4_29) _ ?_
    show Steps p.tables e below (T1.setTop (mkF m 30 #[.val (.long jam), .second, .val (.int 128)] [(.ref vb)])) _
    jvm_step X1.here [X1.here.top, hx, (hb hby d4_30), X1.method', Bd.returns, Value.isRef, FieldType.isReference]
    first | (intro acts; rw [hr _ acts rfl rfl rfl]) | rw [hr _ _ rfl rfl rfl]
    exact Steps.refl _
  · show QP (some (.ref vb)) h0 n0 _ T1.heap _
    rw [e1]
    exact ⟨rfl, N0, rfl⟩
theorem rmB_38 (l : Launch) (Z : State) (a0 : Array Value) (hw : ∀ d ∈ tables_1, d.before a0 Z = true) (ws : List Jvm.Cond) (jam : Int64) (a_cache : Addr) (h0 : Heap) (n0 : Nat) (Z0 : n0 ≤ h0.size) (f1 : ¬ ((lcmpW jam (-128 : Int64)) < (0 : Int32))) (f2 : S_0 Z h0 (.ref a_cache)) (f3 : OwnAll Z h0 a_cache "java/lang/Long") :
    MetFree l M_4 (head1 (Jvm.Cond.code M_4 jdk_35_method_24_code 3 (some (.object "java/lang/Long")) :: ws) R_3_1_1_39) (fun a U => a = #[(.long jam)] ∧ Z.Warmed39 U.vm ∧ U.heap = h0) (fun _ _ _ _ _ => True) (fun _ U o U' => ∃ v L, o = .returned v ∧ QB Z "java/lang/Long" h0 n0 v U'.heap L ∧ FrameEnd U o U' L R_3_1_1_39.cells R_3_1_1_39.slots) := by
  by_cases hp0 : (0 : Int32) < (lcmpW jam (127 : Int64))
  · exact own_weakQ (fun v h L q => by obtain ⟨b, q1, q2, q3, _, q4, _⟩ := q; exact ⟨b, q1, q2, q3, q4⟩) (rm4_35 l Z a0 hw ws jam h0 n0 Z0 f1 hp0)
  obtain ⟨cl, A1, A2, A3⟩ := f3
  have hi := own_jidx jam f1 hp0
  obtain ⟨vb, hb, hE⟩ := A3 _ hi.2
  have hL : ∃ cl : Cell, Arr Z h0 a_cache cl (.object "java/lang/Long") ∧ ¬ (((jam.toInt32) + (128 : Int32)) < 0 ∨ cl.slots.size ≤ (((jam.toInt32) + (128 : Int32))).toNatClampNeg) ∧ cl.slots[(((jam.toInt32) + (128 : Int32))).toNatClampNeg]? = some (.ref vb) := ⟨cl, A1, by rw [A2]; exact fun q => q.elim hi.1 (fun z => absurd hi.2 (Nat.not_lt.mpr z)), hb⟩
  exact own_weakQ (fun v h L q => by obtain ⟨q1, q2, q3⟩ := q; subst q3; exact ⟨vb, q1, q2, Keep.refl _ _, hE⟩) (rm4_37 l Z a0 hw ws jam a_cache vb h0 n0 Z0 f1 hp0 f2 hL)
theorem pd_4 : parseMethodDescriptor "(J)Ljava/lang/Long;" = some ⟨[.long], some (.object "java/lang/Long")⟩ := by decide +kernel
theorem tw_20 {a0 : Array Value} {Z : State} (hw : ∀ d ∈ tables_1, d.before a0 Z = true) : (Jvm.Cond.static ({ cls := "java/lang/Long", name := "valueOf", desc := "(J)Ljava/lang/Long;" } : Jvm.MethodName)).before a0 Z = true := hw _ (List.mem_of_getElem? (i := 20) rfl)
theorem d3_66 : decode prog_14_method_2_code 66 = .ok (.aastore, 1) := by decide +kernel
theorem d3_67 : decode prog_14_method_2_code 67 = .ok (.return_, 1) := by decide +kernel
abbrev R_4_1_1_55 : Room := { frames := 4, cells := 1, slots := 1, locals := 55 }
abbrev M_5 : MethodName := ⟨"hexwright/engine/SealedBids", "bid", "(IJJ)V"⟩
theorem ef3_RIJJ (m : MethodId) (x0 : Addr) (x1 : Int32) (x2 : Int64) (x3 : Int64) : entryFrame m #[(.ref x0), (.int x1), (.long x2), (.long x3)] 6 = mkF m 0 #[.val (.ref x0), .val (.int x1), .val (.long x2), .second, .val (.long x3), .second] [] := by first | (simp [entryFrame, mkF, argsToLocals, Value.category]; done) | rfl
def Q3_42 (Z : State) (c1_a : Addr) (c2_k : ClassId) (h0 : Heap) (n0 : Nat) (v : Option Value) (h : Heap) (L : List Loc) : Prop := ∃ (bx40 : Addr), v = none ∧ Fr n0 L ∧ Keep h0 h [c1_a] ∧ Arv Z h c1_a c2_k (.object "java/lang/Long") (1 : Int32) [(.ref bx40)] .null
set_option maxRecDepth 65536 in
set_option maxHeartbeats 40000000 in
theorem rm3_41 (l : Launch) (Z : State) (a0 : Array Value) (hw : ∀ d ∈ tables_1, d.before a0 Z = true) (ws : List Jvm.Cond) (c0_a : Addr) (jam : Int64) (c1_a : Addr) (c2_k : ClassId) (a_cache : Addr) (h0 : Heap) (n0 : Nat) (Z0 : n0 ≤ h0.size) (f1 : F_0 Z h0 c0_a (.ref c1_a)) (f2 : Arv Z h0 c1_a c2_k (.object "java/lang/Long") (1 : Int32) [.null] .null) (f3 : ¬ ((lcmpW jam (0 : Int64)) < (0 : Int32))) (f4 : ¬ ((0 : Int32) < (lcmpW jam (9223372036854775807 : Int64)))) (f5 : ¬ ((lcmpW jam (-128 : Int64)) < (0 : Int32))) (f6 : S_0 Z h0 (.ref a_cache)) (f7 : OwnAll Z h0 a_cache "java/lang/Long") (f8 : n0 ≤ c1_a) (f9 : Ovr Z c2_k "java/lang/Long") :
    MetFree l M_5 (head1 (Jvm.Cond.code M_5 prog_14_method_2_code 6 none :: ws) R_4_1_1_55) (fun a U => a = #[(.ref c0_a), (.int 1), (.long jam), (.long 9223372036854775807)] ∧ Z.Warmed39 U.vm ∧ U.heap = h0) (fun _ _ _ _ _ => True) (fun _ U o U' => ∃ v L, o = .returned v ∧ Q3_42 Z c1_a c2_k h0 n0 v U'.heap L ∧ FrameEnd U o U' L R_4_1_1_55.cells R_4_1_1_55.slots) := by
  refine MetFree.of_bodySF (plainFor_of_name pn_hexwright_engine_SealedBids) hisR ?_
  intro p e s m args below meth c s₁ Bd hml0 hP hK
  obtain ⟨rfl, hZ, hh⟩ := hP
  have hx := Bd.exec
  have hby := Bd.bytes
  have hml : c.maxLocals = 6 := hml0
  have hown : s.vm.findClass "hexwright/engine/SealedBids" = some m.cls := findClass_of_methodNamed Bd.named
  have hnm := (name_of_methodNamed Bd.named Bd.method).1
  have X0 : Stand p l e R_4_1_1_55 s m #[(.ref c0_a), (.int 1), (.long jam), (.long 9223372036854775807)] below meth c s₁ [] 0 0 := Stand.of_body Bd
  have e0 : s₁.heap = h0 := by rw [← hh, Bd.state]; rfl
  have N0 := Fr.nil n0
  obtain ⟨T1, X1, e1, st1⟩ := getF X0 hx hZ hown (host := "") (Or.inl (tw_12 hw)) Via.refl e0 f1 (g := (mkF m 1 #[.val (.ref c0_a), .val (.int 1), .val (.long jam), .second, .val (.long 9223372036854775807), .second] [(.ref c0_a)])) rfl rfl (hb hby d3_1)
  have va2 := f2
  obtain ⟨cl2, Ar2, -, S2, -, H2, -⟩ := va2
  have hin2 : ¬ ((0 : Int32) < 0 ∨ cl2.slots.size ≤ ((0 : Int32)).toNatClampNeg) := inb_of S2 ⟨by decide, by decide⟩
  have hat2 : cl2.slots[((0 : Int32)).toNatClampNeg]? = some .null := H2 _ (Nat.lt_of_not_le fun y => hin2 (Or.inr y))
  obtain ⟨T3, X3, e3, st3⟩ := getF X1 hx hZ hown (host := "") (Or.inl (tw_12 hw)) Via.refl e1 f1 (g := (mkF m 56 #[.val (.ref c0_a), .val (.int 1), .val (.long jam), .second, .val (.long 9223372036854775807), .second] [(.ref c0_a)])) rfl rfl (hb hby d3_56)
  -- pc 63: java/lang/Long.valueOf
  obtain ⟨_, _, ⟨T4, L4, k4, n4⟩, -, X4, ⟨Lc4, hQ4, l4, y4, z4⟩, st4⟩ := Jvm.LawKit.callS X3 hx (y := M_4) hown (mvT hZ (tw_19 hw)) (mvT hZ (tw_20 hw)) (mvT hZ (tw_21 hw)) (mvT hZ (tw_22 hw)) (by decide) (backOf (W := 2) (rmB_38 l Z a0 hw [] jam a_cache h0 n0 Z0 f5 f6 f7) hZ (tw_22 hw) (tw_21 hw) (by decide) (by decide)) (g := (mkF m 63 #[.val (.ref c0_a), .val (.int 1), .val (.long jam), .second, .val (.long 9223372036854775807), .second] [(.long jam), (.int 0), (.ref c1_a)])) rfl (by rw [hml]; rfl) (argsL := [(.long jam)]) (rest := [(.int 0), (.ref c1_a)]) (lenOf pd_4 rfl) rfl (by show 2 * 0 + _ ≤ _; exact Nat.le_of_eq rfl) (hb hby d3_63) (fun _ _ => ⟨rfl, e3, (by decide : 0 + 1 ≤ _), (by decide : 0 + 1 ≤ _)⟩)
  dsimp only [Pt.U, Pt.locs, Pt.cells, Pt.slots] at X4 l4 y4 z4 st4 hQ4
  subst l4 y4 z4
  obtain ⟨bx40, rfl, Nq4, K4, o4_0⟩ := hQ4
  have N4 := Fr.app N0 Nq4
  have KK4 : Keep h0 T4.heap [c1_a] := (Keep.refl h0 [c1_a]).trans K4 (fun x hx => nomatch hx)
  have u5 : Arv Z T4.heap c1_a c2_k (.object "java/lang/Long") (1 : Int32) [.null] .null := Arv.keep f2 K4 List.not_mem_nil
  have va6 := u5
  obtain ⟨cl6, Ar6, q6, S6, N6_, H6, G6⟩ := va6
  have hin6 : ¬ ((0 : Int32) < 0 ∨ cl6.slots.size ≤ ((0 : Int32)).toNatClampNeg) := inb_of S6 ⟨by decide, by decide⟩
  obtain ⟨T7, h7, X7, e7, W7, st7⟩ := stR X4 hx hZ rfl Ar6 (j := (0 : Int32)) hin6 rfl (Sto.ofV Ar6 q6 f9 (Ins.self o4_0)) (g := (mkF m 66 #[.val (.ref c0_a), .val (.int 1), .val (.long jam), .second, .val (.long 9223372036854775807), .second] [(.ref bx40), (.int 0), (.ref c1_a)])) rfl rfl (hb hby d3_66)
  have Vw7 : Arv Z h7 c1_a c2_k (.object "java/lang/Long") (1 : Int32) [(.ref bx40)] .null := Arv.set Ar6 q6 S6 N6_ H6 G6 rfl W7 0 rfl (Nat.le_of_ble_eq_true rfl)
  have KK7 : Keep h0 h7 [c1_a] := KK4.wr W7 (Or.inl (List.mem_of_getElem? (i := 0) rfl))
  have N7 := Fr.snoc X7 N4 f8
  obtain ⟨fs, hr, hrun, hended, hW, hsame⟩ := X7.leave (v := none) (fun _ => rfl)
  refine ⟨_, _, castTop (ef3_RIJJ m c0_a (1 : Int32) jam (9223372036854775807 : Int64)) ?_, hrun, hended, _, _, rfl, ?_, ⟨_, rfl⟩, hW, hsame.mono (by decide) (by decide)⟩
  · show Steps p.tables e below (s₁.setTop (mkF m 0 #[.val (.ref c0_a), .val (.int 1), .val (.long jam), .second, .val (.long 9223372036854775807), .second] [])) _
    refine XS.aloadN X0.here hx rfl (hb hby d3_0) rfl rfl ?_
    show Steps p.tables e below (s₁.setTop (mkF m 1 #[.val (.ref c0_a), .val (.int 1), .val (.long jam), .second, .val (.long 9223372036854775807), .second] [(.ref c0_a)])) _
    refine st1 _ ?_
    refine XS.iloadN X1.here hx rfl (hb hby d3_4) rfl ?_
    refine XS.iconst X1.here hx rfl (hb hby d3_5) ?_
    show Steps p.tables e below (T1.setTop (mkF m 6 #[.val (.ref c0_a), .val (.int 1), .val (.long jam), .second, .val (.long 9223372036854775807), .second] [(.int 1), (.int 1), (.ref c1_a)])) _
    refine XS.isub X1.here hx rfl (hb hby d3_6) rfl ?_
    show Steps p.tables e below (T1.setTop (mkF m 7 #[.val (.ref c0_a), .val (.int 1), .val (.long jam), .second, .val (.long 9223372036854775807), .second] [(.int ((1 : Int32) - (1 : Int32))), (.ref c1_a)])) _
    rw [show ((1 : Int32) - (1 : Int32)) = (0 : Int32) from by decide]
    show Steps p.tables e below (T1.setTop (mkF m 7 #[.val (.ref c0_a), .val (.int 1), .val (.long jam), .second, .val (.long 9223372036854775807), .second] [(.int 0), (.ref c1_a)])) _
    refine X1.aaload hx (j := (0 : Int32)) (v := .null) (by rw [e1]; exact Ar2.1) (State.isArrayOf_alike hZ.alike Ar2.2.1) rfl Ar2.2.2 hin2 hat2 (g := (mkF m 7 #[.val (.ref c0_a), .val (.int 1), .val (.long jam), .second, .val (.long 9223372036854775807), .second] [(.int 0), (.ref c1_a)])) rfl rfl (hb hby d3_7) _ ?_
    refine XS.ifnullYes X1.here hx rfl (pc0 := 8) (pc' := 25) rfl (hb hby d3_8) rfl (by decide) (by decide) ?_
    refine XS.lloadN X1.here hx rfl (hb hby d3_25) rfl ?_
    refine XS.lconst X1.here hx rfl (hb hby d3_26) ?_
    show Steps p.tables e below (T1.setTop (mkF m 27 #[.val (.ref c0_a), .val (.int 1), .val (.long jam), .second, .val (.long 9223372036854775807), .second] [(.long 0), (.long jam)])) _
    refine XS.lcmp X1.here hx rfl (hb hby d3_27) rfl ?_
    refine XS.ifNo X1.here hx rfl (hb hby d3_28) rfl ((if0 _ _).trans (flt (f3 : ¬ ((lcmpW jam (0 : Int64)) < (0 : Int32)))).1) ?_
    refine XS.lloadN X1.here hx rfl (hb hby d3_31) rfl ?_
    refine XS.lload X1.here hx rfl (hb hby d3_32) rfl ?_
    show Steps p.tables e below (T1.setTop (mkF m 34 #[.val (.ref c0_a), .val (.int 1), .val (.long jam), .second, .val (.long 9223372036854775807), .second] [(.long 9223372036854775807), (.long jam)])) _
    refine XS.lcmp X1.here hx rfl (hb hby d3_34) rfl ?_
    refine XS.ifYes X1.here hx rfl (pc0 := 35) (pc' := 55) rfl (hb hby d3_35) rfl ((if0 _ _).trans (flt (f4 : ¬ ((0 : Int32) < (lcmpW jam (9223372036854775807 : Int64))))).2.2.2) (by decide) (by decide) ?_
    refine XS.aloadN X1.here hx rfl (hb hby d3_55) rfl rfl ?_
    show Steps p.tables e below (T1.setTop (mkF m 56 #[.val (.ref c0_a), .val (.int 1), .val (.long jam), .second, .val (.long 9223372036854775807), .second] [(.ref c0_a)])) _
    refine st3 _ ?_
    refine XS.iloadN X3.here hx rfl (hb hby d3_59) rfl ?_
    refine XS.iconst X3.here hx rfl (hb hby d3_60) ?_
    show Steps p.tables e below (T3.setTop (mkF m 61 #[.val (.ref c0_a), .val (.int 1), .val (.long jam), .second, .val (.long 9223372036854775807), .second] [(.int 1), (.int 1), (.ref c1_a)])) _
    refine XS.isub X3.here hx rfl (hb hby d3_61) rfl ?_
    show Steps p.tables e below (T3.setTop (mkF m 62 #[.val (.ref c0_a), .val (.int 1), .val (.long jam), .second, .val (.long 9223372036854775807), .second] [(.int ((1 : Int32) - (1 : Int32))), (.ref c1_a)])) _
    rw [show ((1 : Int32) - (1 : Int32)) = (0 : Int32) from by decide]
    refine XS.lloadN X3.here hx rfl (hb hby d3_62) rfl ?_
    show Steps p.tables e below (T3.setTop (mkF m 63 #[.val (.ref c0_a), .val (.int 1), .val (.long jam), .second, .val (.long 9223372036854775807), .second] [(.long jam), (.int 0), (.ref c1_a)])) _
    refine st4 _ ?_
    show Steps p.tables e below (T4.setTop (mkF m 66 #[.val (.ref c0_a), .val (.int 1), .val (.long jam), .second, .val (.long 9223372036854775807), .second] [(.ref bx40), (.int 0), (.ref c1_a)])) _
    refine st7 _ ?_
    show Steps p.tables e below (T7.setTop (mkF m 67 #[.val (.ref c0_a), .val (.int 1), .val (.long jam), .second, .val (.long 9223372036854775807), .second] [])) _
    exact X7.returnOut hx Bd.returns (hb hby d3_67) hr
  · show Q3_42 Z c1_a c2_k h0 n0 _ T7.heap _
    rw [e7]
    exact ⟨bx40, rfl, N7, KK7, Vw7⟩
theorem pd_5 : parseMethodDescriptor "(IJJ)V" = some ⟨[.int, .long, .long], none⟩ := by decide +kernel
theorem tw_17 {a0 : Array Value} {Z : State} (hw : ∀ d ∈ tables_1, d.before a0 Z = true) : (Jvm.Cond.selects "hexwright/engine/SealedBids" ({ cls := "hexwright/engine/SealedBids", name := "bid", desc := "(IJJ)V" } : Jvm.MethodName) ({ cls := "hexwright/engine/SealedBids", name := "bid", desc := "(IJJ)V" } : Jvm.MethodName)).before a0 Z = true := hw _ (List.mem_of_getElem? (i := 17) rfl)
theorem tw_15 {a0 : Array Value} {Z : State} (hw : ∀ d ∈ tables_1, d.before a0 Z = true) : (Jvm.Cond.declares ({ cls := "hexwright/engine/SealedBids", name := "bid", desc := "(IJJ)V" } : Jvm.MethodName)).before a0 Z = true := hw _ (List.mem_of_getElem? (i := 15) rfl)
theorem tw_16 {a0 : Array Value} {Z : State} (hw : ∀ d ∈ tables_1, d.before a0 Z = true) : (Jvm.Cond.instanceMethod ({ cls := "hexwright/engine/SealedBids", name := "bid", desc := "(IJJ)V" } : Jvm.MethodName)).before a0 Z = true := hw _ (List.mem_of_getElem? (i := 16) rfl)
set_option maxRecDepth 65536 in
set_option maxHeartbeats 40000000 in
theorem sg101_44 {p : Program} {l : Launch} {e : Env} {s : State} {m : MethodId} {below : List Frame} {meth : Method} {c : Code} {T0 : State} {locs : List Loc} {Z : State} {a0 : Array Value} (p0 : Int32) (p1 : Int32) (p2 : Int64) (gq4 : Int32) (gq6 : Int32) (gq7 : Int32) (gq8 : Int32) (jam : Int64) (c0_a : Addr) (c1_a : Addr) (c2_k : ClassId) (a_cache : Addr) {h0 : Heap} {n0 : Nat} (X0 : Stand p l e room_1 s m #[(.int p0), (.int p1), (.long p2)] below meth c T0 locs 2 2) (hx : p.tables.exec = Jvm.exec) (hZ : Z.Warmed39 s.vm) (hw : ∀ d ∈ tables_1, d.before a0 Z = true) (hby : c.code = code) (hml : c.maxLocals = 15) (hown : s.vm.findClass "hexwright/engine/SealedBidsHasBidPinLaw" = some m.cls) (e0 : T0.heap = h0) (N0 : Fr n0 locs) (Z0 : n0 ≤ h0.size) (f1 : F_0 Z h0 c0_a (.ref c1_a)) (f2 : Arv Z h0 c1_a c2_k (.object "java/lang/Long") (1 : Int32) [.null] .null) (f3 : ¬ ((lcmpW jam (0 : Int64)) < (0 : Int32))) (f4 : ¬ ((0 : Int32) < (lcmpW jam (9223372036854775807 : Int64)))) (f5 : ¬ ((lcmpW jam (-128 : Int64)) < (0 : Int32))) (f6 : S_0 Z h0 (.ref a_cache)) (f7 : OwnAll Z h0 a_cache "java/lang/Long") (f8 : n0 ≤ c1_a) (f9 : Ovr Z c2_k "java/lang/Long") (f10 : E_1 Z h0 c0_a) :
    ∃ (T : State) (h : Heap) (L : List Loc) (bx43 : Addr), Stand p l e room_1 s m #[(.int p0), (.int p1), (.long p2)] below meth c T L 3 3 ∧ T.heap = h ∧ Fr n0 L ∧ Keep h0 h [c1_a] ∧ Arv Z h c1_a c2_k (.object "java/lang/Long") (1 : Int32) [(.ref bx43)] .null ∧ (∀ target, Steps p.tables e below (T.setTop (mkF m 116 #[.val (.int p0), .val (.int p1), .val (.long p2), .second, .val (.int gq4), .val (.int 1), .val (.int gq6), .val (.int gq7), .val (.int gq8), .val (.long jam), .second, .val (.long 9223372036854775807), .second, .val (.ref c0_a), .unset] [])) target → Steps p.tables e below (T0.setTop (mkF m 101 #[.val (.int p0), .val (.int p1), .val (.long p2), .second, .val (.int gq4), .val (.int 1), .val (.int gq6), .val (.int gq7), .val (.int gq8), .val (.long jam), .second, .val (.long 9223372036854775807), .second, .val (.ref c0_a), .unset] [])) target) := by
  -- pc 113: hexwright/engine/SealedBids.bid
  obtain ⟨cq1, kq1, q1a, q1b, q1c⟩ := isOf hZ e0 f10
  obtain ⟨_, _, ⟨T1, L1, k1, n1⟩, -, X1, ⟨Lc1, hQ1, l1, y1, z1⟩, st1⟩ := X0.virtualBack hx (y := M_5) (z := M_5) hown (mvT hZ (tw_14 hw)) (mvT hZ (tw_15 hw)) (notFace_of_selects (args := #[]) (mvT hZ (tw_17 hw))) (mvT hZ (tw_17 hw)) (mvT hZ (tw_16 hw)) (by decide) (backOf (W := 0) (rm3_41 l Z a0 hw [] c0_a jam c1_a c2_k a_cache h0 n0 Z0 f1 f2 f3 f4 f5 f6 f7 f8 f9) hZ (tw_18 hw) (tw_3 hw) (by decide) (by decide)) q1a q1c (g := (mkF m 113 #[.val (.int p0), .val (.int p1), .val (.long p2), .second, .val (.int gq4), .val (.int 1), .val (.int gq6), .val (.int gq7), .val (.int gq8), .val (.long jam), .second, .val (.long 9223372036854775807), .second, .val (.ref c0_a), .unset] [(.long 9223372036854775807), (.long jam), (.int 1), (.ref c0_a)])) rfl (by rw [hml]; rfl) (Steps.refl _) (argsL := [(.int 1), (.long jam), (.long 9223372036854775807)]) (rest := []) (lenOf pd_5 rfl) rfl (by show 2 * 0 + _ ≤ _; exact Nat.le_of_eq rfl) (hb hby at_113) (fun _ _ => ⟨rfl, e0, (by decide : 2 + 1 ≤ _), (by decide : 2 + 1 ≤ _)⟩)
  dsimp only [Pt.U, Pt.locs, Pt.cells, Pt.slots] at X1 l1 y1 z1 st1 hQ1
  subst l1 y1 z1
  obtain ⟨bx43, rfl, Nq1, K1, o1_0⟩ := hQ1
  have N1 := Fr.app N0 Nq1
  have KK1 : Keep h0 T1.heap [c1_a] := (Keep.refl h0 [c1_a]).trans K1 (fun x hx => (List.mem_cons.mp hx).elim (fun q => q ▸ (Or.inl (List.mem_of_getElem? (i := 0) rfl))) (fun hx => nomatch hx))
  refine ⟨T1, _, _, bx43, (X1.more (by decide) (by decide)), rfl, N1, KK1, o1_0, fun target kt => ?_⟩
  show Steps p.tables e below (T0.setTop (mkF m 101 #[.val (.int p0), .val (.int p1), .val (.long p2), .second, .val (.int gq4), .val (.int 1), .val (.int gq6), .val (.int gq7), .val (.int gq8), .val (.long jam), .second, .val (.long 9223372036854775807), .second, .val (.ref c0_a), .unset] [])) _
  refine XS.iload X0.here hx rfl (hb hby at_101) rfl ?_
  refine XS.ifNo X0.here hx rfl (hb hby at_103) rfl (by decide) ?_
  refine XS.aload X0.here hx rfl (hb hby at_106) rfl rfl ?_
  refine XS.iconst X0.here hx rfl (hb hby at_108) ?_
  refine XS.lload X0.here hx rfl (hb hby at_109) rfl ?_
  show Steps p.tables e below (T0.setTop (mkF m 111 #[.val (.int p0), .val (.int p1), .val (.long p2), .second, .val (.int gq4), .val (.int 1), .val (.int gq6), .val (.int gq7), .val (.int gq8), .val (.long jam), .second, .val (.long 9223372036854775807), .second, .val (.ref c0_a), .unset] [(.long jam), (.int 1), (.ref c0_a)])) _
  refine XS.lload X0.here hx rfl (hb hby at_111) rfl ?_
  show Steps p.tables e below (T0.setTop (mkF m 113 #[.val (.int p0), .val (.int p1), .val (.long p2), .second, .val (.int gq4), .val (.int 1), .val (.int gq6), .val (.int gq7), .val (.int gq8), .val (.long jam), .second, .val (.long 9223372036854775807), .second, .val (.ref c0_a), .unset] [(.long 9223372036854775807), (.long jam), (.int 1), (.ref c0_a)])) _
  refine st1.trans ?_
  show Steps p.tables e below (T1.setTop (mkF m 116 #[.val (.int p0), .val (.int p1), .val (.long p2), .second, .val (.int gq4), .val (.int 1), .val (.int gq6), .val (.int gq7), .val (.int gq8), .val (.long jam), .second, .val (.long 9223372036854775807), .second, .val (.ref c0_a), .unset] [])) _
  exact kt
theorem d5_11 : decode prog_14_method_4_code 11 = .ok (.iconst 1, 1) := by decide +kernel
theorem d5_12 : decode prog_14_method_4_code 12 = .ok (.goto 4, 3) := by decide +kernel
set_option maxRecDepth 65536 in
set_option maxHeartbeats 40000000 in
theorem rm5_46 (l : Launch) (Z : State) (a0 : Array Value) (hw : ∀ d ∈ tables_1, d.before a0 Z = true) (ws : List Jvm.Cond) (c0_a : Addr) (c1_a : Addr) (c2_k : ClassId) (c3_a : Addr) (h0 : Heap) (n0 : Nat) (Z0 : n0 ≤ h0.size) (f1 : F_0 Z h0 c0_a (.ref c1_a)) (f2 : Arv Z h0 c1_a c2_k (.object "java/lang/Long") (1 : Int32) [(.ref c3_a)] .null) :
    MetFree l M_1 (head1 (Jvm.Cond.code M_1 prog_14_method_4_code 2 (some .boolean) :: ws) R_0_0_0_0) (fun a U => a = #[(.ref c0_a), (.int 1)] ∧ Z.Warmed39 U.vm ∧ U.heap = h0) (fun _ _ _ _ _ => True) (fun _ U o U' => ∃ v L, o = .returned v ∧ QP (some (.int 1)) h0 n0 v U'.heap L ∧ FrameEnd U o U' L R_0_0_0_0.cells R_0_0_0_0.slots) := by
  refine MetFree.of_bodySF (plainFor_of_name pn_hexwright_engine_SealedBids) hisR ?_
  intro p e s m args below meth c s₁ Bd hml0 hP hK
  obtain ⟨rfl, hZ, hh⟩ := hP
  have hx := Bd.exec
  have hby := Bd.bytes
  have hml : c.maxLocals = 2 := hml0
  have hown : s.vm.findClass "hexwright/engine/SealedBids" = some m.cls := findClass_of_methodNamed Bd.named
  have hnm := (name_of_methodNamed Bd.named Bd.method).1
  have X0 : Stand p l e R_0_0_0_0 s m #[(.ref c0_a), (.int 1)] below meth c s₁ [] 0 0 := Stand.of_body Bd
  have e0 : s₁.heap = h0 := by rw [← hh, Bd.state]; rfl
  have N0 := Fr.nil n0
  obtain ⟨T1, X1, e1, st1⟩ := getF X0 hx hZ hown (host := "") (Or.inl (tw_12 hw)) Via.refl e0 f1 (g := (mkF m 1 #[.val (.ref c0_a), .val (.int 1)] [(.ref c0_a)])) rfl rfl (hb hby d5_1)
  have va2 := f2
  obtain ⟨cl2, Ar2, -, S2, -, H2, -⟩ := va2
  have hin2 : ¬ ((0 : Int32) < 0 ∨ cl2.slots.size ≤ ((0 : Int32)).toNatClampNeg) := inb_of S2 ⟨by decide, by decide⟩
  have hat2 : cl2.slots[((0 : Int32)).toNatClampNeg]? = some (.ref c3_a) := H2 _ (Nat.lt_of_not_le fun y => hin2 (Or.inr y))
  obtain ⟨fs, hr, hrun, hended, hW, hsame⟩ := X1.leave (v := (some (.int 1))) (fun h => by rw [Bd.returns] at h; cases h)
  refine ⟨_, _, castTop (ef5_RI m c0_a (1 : Int32)) ?_, hrun, hended, _, _, rfl, ?_, ⟨_, rfl⟩, hW, hsame.mono (by decide) (by decide)⟩
  · show Steps p.tables e below (s₁.setTop (mkF m 0 #[.val (.ref c0_a), .val (.int 1)] [])) _
    refine XS.aloadN X0.here hx rfl (hb hby d5_0) rfl rfl ?_
    show Steps p.tables e below (s₁.setTop (mkF m 1 #[.val (.ref c0_a), .val (.int 1)] [(.ref c0_a)])) _
    refine st1 _ ?_
    refine XS.iloadN X1.here hx rfl (hb hby d5_4) rfl ?_
    refine XS.iconst X1.here hx rfl (hb hby d5_5) ?_
    show Steps p.tables e below (T1.setTop (mkF m 6 #[.val (.ref c0_a), .val (.int 1)] [(.int 1), (.int 1), (.ref c1_a)])) _
    refine XS.isub X1.here hx rfl (hb hby d5_6) rfl ?_
    show Steps p.tables e below (T1.setTop (mkF m 7 #[.val (.ref c0_a), .val (.int 1)] [(.int ((1 : Int32) - (1 : Int32))), (.ref c1_a)])) _
    rw [show ((1 : Int32) - (1 : Int32)) = (0 : Int32) from by decide]
    show Steps p.tables e below (T1.setTop (mkF m 7 #[.val (.ref c0_a), .val (.int 1)] [(.int 0), (.ref c1_a)])) _
    refine X1.aaload hx (j := (0 : Int32)) (v := (.ref c3_a)) (by rw [e1]; exact Ar2.1) (State.isArrayOf_alike hZ.alike Ar2.2.1) rfl Ar2.2.2 hin2 hat2 (g := (mkF m 7 #[.val (.ref c0_a), .val (.int 1)] [(.int 0), (.ref c1_a)])) rfl rfl (hb hby d5_7) _ ?_
    refine XS.ifnullNo X1.here hx rfl (hb hby d5_8) rfl ?_
    refine XS.iconst X1.here hx rfl (hb hby d5_11) ?_
    refine XS.goto X1.here hx rfl (pc0 := 12) (pc' := 16) rfl (hb hby d5_12) (by decide) (by decide) ?_
    show Steps p.tables e below (T1.setTop (mkF m 16 #[.val (.ref c0_a), .val (.int 1)] [(.int 1)])) _
    exact retN X1 hx (t := .boolean) Bd.returns (by simp) (hb hby d5_16) hr
  · show QP (some (.int 1)) h0 n0 _ T1.heap _
    rw [e1]
    exact ⟨rfl, N0, rfl⟩
set_option maxRecDepth 65536 in
set_option maxHeartbeats 40000000 in
theorem sg161_47 {p : Program} {l : Launch} {e : Env} {s : State} {m : MethodId} {below : List Frame} {meth : Method} {c : Code} {T0 : State} {locs : List Loc} {Z : State} {a0 : Array Value} (p0 : Int32) (p1 : Int32) (p2 : Int64) (gq4 : Int32) (gq6 : Int32) (gq7 : Int32) (gq8 : Int32) (jam : Int64) (gq11 : Int64) (c0_a : Addr) (c1_a : Addr) (c2_k : ClassId) (c3_a : Addr) {h0 : Heap} {n0 : Nat} (X0 : Stand p l e room_1 s m #[(.int p0), (.int p1), (.long p2)] below meth c T0 locs 6 6) (hx : p.tables.exec = Jvm.exec) (hZ : Z.Warmed39 s.vm) (hw : ∀ d ∈ tables_1, d.before a0 Z = true) (hby : c.code = code) (hml : c.maxLocals = 15) (hown : s.vm.findClass "hexwright/engine/SealedBidsHasBidPinLaw" = some m.cls) (e0 : T0.heap = h0) (N0 : Fr n0 locs) (Z0 : n0 ≤ h0.size) (f1 : F_0 Z h0 c0_a (.ref c1_a)) (f2 : Arv Z h0 c1_a c2_k (.object "java/lang/Long") (1 : Int32) [(.ref c3_a)] .null) (f3 : E_1 Z h0 c0_a) :
    ∃ (T : State) (L : List Loc), Stand p l e room_1 s m #[(.int p0), (.int p1), (.long p2)] below meth c T L 6 6 ∧ T.heap = h0 ∧ Fr n0 L ∧ (∀ target, Steps p.tables e below (T.setTop (mkF m 179 #[.val (.int p0), .val (.int p1), .val (.long p2), .second, .val (.int gq4), .val (.int 1), .val (.int gq6), .val (.int gq7), .val (.int gq8), .val (.long jam), .second, .val (.long gq11), .second, .val (.ref c0_a), .val (.int 1)] [])) target → Steps p.tables e below (T0.setTop (mkF m 161 #[.val (.int p0), .val (.int p1), .val (.long p2), .second, .val (.int gq4), .val (.int 1), .val (.int gq6), .val (.int gq7), .val (.int gq8), .val (.long jam), .second, .val (.long gq11), .second, .val (.ref c0_a), .unset] [])) target) := by
  -- pc 164: hexwright/engine/SealedBids.hasBid
  obtain ⟨cq1, kq1, q1a, q1b, q1c⟩ := isOf hZ e0 f3
  obtain ⟨_, _, ⟨T1, L1, k1, n1⟩, -, X1, ⟨Lc1, hQ1, l1, y1, z1⟩, st1⟩ := X0.virtualBack hx (y := M_1) (z := M_1) hown (mvT hZ (tw_28 hw)) (mvT hZ (tw_29 hw)) (notFace_of_selects (args := #[]) (mvT hZ (tw_31 hw))) (mvT hZ (tw_31 hw)) (mvT hZ (tw_30 hw)) (by decide) (backOf (W := 0) (rm5_46 l Z a0 hw [] c0_a c1_a c2_k c3_a h0 n0 Z0 f1 f2) hZ (tw_32 hw) (tw_3 hw) (by decide) (by decide)) q1a q1c (g := (mkF m 164 #[.val (.int p0), .val (.int p1), .val (.long p2), .second, .val (.int gq4), .val (.int 1), .val (.int gq6), .val (.int gq7), .val (.int gq8), .val (.long jam), .second, .val (.long gq11), .second, .val (.ref c0_a), .unset] [(.int 1), (.ref c0_a)])) rfl (by rw [hml]; rfl) (Steps.refl _) (argsL := [(.int 1)]) (rest := []) (lenOf pd_1 rfl) rfl (by show 2 * 0 + _ ≤ _; exact Nat.le_of_eq rfl) (hb hby at_164) (fun _ _ => ⟨rfl, e0, (by decide : 6 + 0 ≤ _), (by decide : 6 + 0 ≤ _)⟩)
  dsimp only [Pt.U, Pt.locs, Pt.cells, Pt.slots] at X1 l1 y1 z1 st1 hQ1
  subst l1 y1 z1
  obtain ⟨rfl, Nq1, e1⟩ := hQ1
  have N1 := Fr.app N0 Nq1
  refine ⟨T1, _, X1, e1, N1, fun target kt => ?_⟩
  show Steps p.tables e below (T0.setTop (mkF m 161 #[.val (.int p0), .val (.int p1), .val (.long p2), .second, .val (.int gq4), .val (.int 1), .val (.int gq6), .val (.int gq7), .val (.int gq8), .val (.long jam), .second, .val (.long gq11), .second, .val (.ref c0_a), .unset] [])) _
  refine XS.aload X0.here hx rfl (hb hby at_161) rfl rfl ?_
  refine XS.iconst X0.here hx rfl (hb hby at_163) ?_
  show Steps p.tables e below (T0.setTop (mkF m 164 #[.val (.int p0), .val (.int p1), .val (.long p2), .second, .val (.int gq4), .val (.int 1), .val (.int gq6), .val (.int gq7), .val (.int gq8), .val (.long jam), .second, .val (.long gq11), .second, .val (.ref c0_a), .unset] [(.int 1), (.ref c0_a)])) _
  refine st1.trans ?_
  refine XS.iload X1.here hx rfl (hb hby at_167) rfl ?_
  refine XS.icmpNo X1.here hx rfl (hb hby at_169) rfl (by decide) ?_
  refine XS.iconst X1.here hx rfl (hb hby at_172) ?_
  refine XS.goto X1.here hx rfl (pc0 := 173) (pc' := 177) rfl (hb hby at_173) (by decide) (by decide) ?_
  show Steps p.tables e below (T1.setTop (mkF m 177 #[.val (.int p0), .val (.int p1), .val (.long p2), .second, .val (.int gq4), .val (.int 1), .val (.int gq6), .val (.int gq7), .val (.int gq8), .val (.long jam), .second, .val (.long gq11), .second, .val (.ref c0_a), .unset] [(.int 1)])) _
  refine XS.istore X1.here hx rfl (hb hby at_177) rfl (l' := #[.val (.int p0), .val (.int p1), .val (.long p2), .second, .val (.int gq4), .val (.int 1), .val (.int gq6), .val (.int gq7), .val (.int gq8), .val (.long jam), .second, .val (.long gq11), .second, .val (.ref c0_a), .val (.int 1)]) rfl ?_
  show Steps p.tables e below (T1.setTop (mkF m 179 #[.val (.int p0), .val (.int p1), .val (.long p2), .second, .val (.int gq4), .val (.int 1), .val (.int gq6), .val (.int gq7), .val (.int gq8), .val (.long jam), .second, .val (.long gq11), .second, .val (.ref c0_a), .val (.int 1)] [])) _
  exact kt
set_option maxRecDepth 65536 in
set_option maxHeartbeats 40000000 in
theorem rm0_48 (l : Launch) (Z : State) (a0 : Array Value) (hw : ∀ d ∈ tables_1, d.before a0 Z = true) (ws : List Jvm.Cond) (p0 : Int32) (p1 : Int32) (p2 : Int64) (jam : Int64) (a_cache : Addr) (h0 : Heap) (n0 : Nat) (Z0 : n0 ≤ h0.size) (f1 : (p0 &&& (3 : Int32)) = (0 : Int32)) (f2 : ¬ ((p1 &&& (1 : Int32)) = (0 : Int32))) (f3 : (p2 &&& (9223372036854775807 : Int64)) = jam) (f4 : ¬ ((lcmpW jam (0 : Int64)) < (0 : Int32))) (f5 : ¬ ((0 : Int32) < (lcmpW jam (9223372036854775807 : Int64)))) (f6 : ¬ ((lcmpW jam (-128 : Int64)) < (0 : Int32))) (f7 : S_0 Z h0 (.ref a_cache)) (f8 : OwnAll Z h0 a_cache "java/lang/Long") :
    MetFree l x (head1 (Jvm.Cond.code x code maxLocals ret :: ws) room_1) (fun a U => a = #[(.int p0), (.int p1), (.long p2)] ∧ Z.Warmed39 U.vm ∧ U.heap = h0) (fun _ _ _ _ _ => True) (fun _ U o U' => ∃ v L, o = .returned v ∧ QT n0 v U'.heap L ∧ FrameEnd U o U' L room_1.cells room_1.slots) := by
  refine MetFree.of_bodySF (plainFor_of_name pn_hexwright_engine_SealedBidsHasBidPinLaw) hisR ?_
  intro p e s m args below meth c s₁ Bd hml0 hP hK
  obtain ⟨rfl, hZ, hh⟩ := hP
  have hx := Bd.exec
  have hby := Bd.bytes
  have hml : c.maxLocals = 15 := hml0
  have hown : s.vm.findClass "hexwright/engine/SealedBidsHasBidPinLaw" = some m.cls := findClass_of_methodNamed Bd.named
  have hnm := (name_of_methodNamed Bd.named Bd.method).1
  have X0 : Stand p l e room_1 s m #[(.int p0), (.int p1), (.long p2)] below meth c s₁ [] 0 0 := Stand.of_body Bd
  have e0 : s₁.heap = h0 := by rw [← hh, Bd.state]; rfl
  have N0 := Fr.nil n0
  obtain ⟨T1, L1, X1, e1, N1, st1⟩ := sg7_27 p0 p1 p2 (1 : Int32) X0 hx hZ hw hby hml hown e0 N0 Z0 f2
  obtain ⟨T2, L2, X2, e2, N2, st2⟩ := sg20_2 p0 p1 p2 (1 : Int32) X1 hx hZ hw hby hml hown e1 N1 Z0 
  obtain ⟨T3, L3, X3, e3, N3, st3⟩ := sg39_3 p0 p1 p2 (1 : Int32) (0 : Int32) X2 hx hZ hw hby hml hown e2 N2 Z0 
  obtain ⟨T4, L4, X4, e4, N4, st4⟩ := sg58_4 p0 p1 p2 (1 : Int32) (0 : Int32) (0 : Int32) X3 hx hZ hw hby hml hown e3 N3 Z0 
  obtain ⟨T5, L5, X5, e5, N5, st5⟩ := sg78_5 p0 p1 p2 (1 : Int32) (1 : Int32) (0 : Int32) (0 : Int32) (0 : Int32) jam X4 hx hZ hw hby hml hown e4 N4 Z0 f3
  obtain ⟨T6, h6, L6, b28, b29, kc30, X6, e6, N6, K6, le_b28, le_b29, o6_0, o6_1, o6_2, o6_3, o6_4, st6⟩ := sg90_13 p0 p1 p2 (1 : Int32) (0 : Int32) (0 : Int32) (0 : Int32) jam (9223372036854775807 : Int64) X5 hx hZ hw hby hml hown e5 N5 Z0 
  have sz_b28 : h0.size ≤ b28 := Nat.le_trans (Nat.le_refl _) le_b28
  have g_b28 : n0 ≤ b28 := Nat.le_trans Z0 sz_b28
  have sz_b29 : h0.size ≤ b29 := Nat.le_trans (Nat.le_refl _) le_b29
  have g_b29 : n0 ≤ b29 := Nat.le_trans Z0 sz_b29
  have KK6 : Keep h0 h6 [] := (Keep.refl h0 []).trans K6 (fun x hx => nomatch hx)
  have u8 : S_0 Z h6 (.ref a_cache) := own_sta_keep f7 K6 (fun _ q => nomatch q)
  have u9 : OwnAll Z h6 a_cache "java/lang/Long" := own_all_keep f8 K6 List.not_mem_nil
  obtain ⟨T7, h7, L7, bx45, X7, e7, N7, K7, o7_0, st7⟩ := sg101_44 p0 p1 p2 (1 : Int32) (0 : Int32) (0 : Int32) (0 : Int32) jam b28 b29 kc30 a_cache X6 hx hZ hw hby hml hown e6 N6 (Nat.le_trans Z0 KK6.1) o6_1 o6_2 f4 f5 f6 u8 u9 g_b29 o6_3 o6_0
  have KK7 : Keep h0 h7 [] := KK6.trans K7 (fun x hx => (List.mem_cons.mp hx).elim (fun q => q ▸ (Or.inr sz_b29)) (fun hx => nomatch hx))
  obtain ⟨T10, L10, X10, e10, N10, st10⟩ := sg116_18 p0 p1 p2 (1 : Int32) (1 : Int32) (0 : Int32) (0 : Int32) jam b28 X7 hx hZ hw hby hml hown e7 N7 (Nat.le_trans Z0 KK7.1) 
  obtain ⟨T11, L11, X11, e11, N11, st11⟩ := sg131_19 p0 p1 p2 (1 : Int32) (1 : Int32) (0 : Int32) (0 : Int32) jam b28 X10 hx hZ hw hby hml hown e10 N10 (Nat.le_trans Z0 KK7.1) 
  obtain ⟨T12, L12, X12, e12, N12, st12⟩ := sg146_20 p0 p1 p2 (1 : Int32) (1 : Int32) (0 : Int32) (0 : Int32) jam b28 X11 hx hZ hw hby hml hown e11 N11 (Nat.le_trans Z0 KK7.1) 
  have u14 : F_0 Z h7 b28 (.ref b29) := Fld.keep o6_1 K7 (own_notin o6_4 List.not_mem_nil)
  have u15 : E_1 Z h7 b28 := Exa.keep o6_0 K7
  obtain ⟨T13, L13, X13, e13, N13, st13⟩ := sg161_47 p0 p1 p2 (1 : Int32) (0 : Int32) (0 : Int32) (0 : Int32) jam (9223372036854775807 : Int64) b28 b29 kc30 bx45 X12 hx hZ hw hby hml hown e12 N12 (Nat.le_trans Z0 KK7.1) u14 o7_0 u15
  obtain ⟨T16, L16, X16, e16, N16, st16⟩ := sg179_23 p0 p1 p2 (1 : Int32) (0 : Int32) (0 : Int32) jam (9223372036854775807 : Int64) b28 X13 hx hZ hw hby hml hown e13 N13 (Nat.le_trans Z0 KK7.1) 
  obtain ⟨T17, L17, X17, e17, N17, st17⟩ := sg208_24 p0 p1 p2 (1 : Int32) (0 : Int32) (0 : Int32) jam (9223372036854775807 : Int64) b28 X16 hx hZ hw hby hml hown e16 N16 (Nat.le_trans Z0 KK7.1) 
  obtain ⟨T18, L18, X18, e18, N18, st18⟩ := sg237_25 p0 p1 p2 (1 : Int32) (0 : Int32) (0 : Int32) jam (9223372036854775807 : Int64) b28 X17 hx hZ hw hby hml hown e17 N17 (Nat.le_trans Z0 KK7.1) 
  obtain ⟨fs, hr, hrun, hended, hW, hsame⟩ := X18.leave (v := (some (.int 1))) (fun h => by rw [Bd.returns] at h; cases h)
  refine ⟨_, _, castTop (ef0_IIJ m p0 p1 p2) ?_, hrun, hended, _, _, rfl, ?_, ⟨_, rfl⟩, hW, hsame.mono (by decide) (by decide)⟩
  · show Steps p.tables e below (s₁.setTop (mkF m 0 #[.val (.int p0), .val (.int p1), .val (.long p2), .second, .unset, .unset, .unset, .unset, .unset, .unset, .unset, .unset, .unset, .unset, .unset] [])) _
    refine XS.iloadN X0.here hx rfl (hb hby at_0) rfl ?_
    refine XS.iconst X0.here hx rfl (hb hby at_1) ?_
    show Steps p.tables e below (s₁.setTop (mkF m 2 #[.val (.int p0), .val (.int p1), .val (.long p2), .second, .unset, .unset, .unset, .unset, .unset, .unset, .unset, .unset, .unset, .unset, .unset] [(.int 3), (.int p0)])) _
    refine XS.iand X0.here hx rfl (hb hby at_2) rfl ?_
    show Steps p.tables e below (s₁.setTop (mkF m 3 #[.val (.int p0), .val (.int p1), .val (.long p2), .second, .unset, .unset, .unset, .unset, .unset, .unset, .unset, .unset, .unset, .unset, .unset] [(.int (p0 &&& (3 : Int32)))])) _
    rw [f1]
    refine XS.iconst X0.here hx rfl (hb hby at_3) ?_
    show Steps p.tables e below (s₁.setTop (mkF m 4 #[.val (.int p0), .val (.int p1), .val (.long p2), .second, .unset, .unset, .unset, .unset, .unset, .unset, .unset, .unset, .unset, .unset, .unset] [(.int 1), (.int 0)])) _
    refine XS.iadd X0.here hx rfl (hb hby at_4) rfl ?_
    show Steps p.tables e below (s₁.setTop (mkF m 5 #[.val (.int p0), .val (.int p1), .val (.long p2), .second, .unset, .unset, .unset, .unset, .unset, .unset, .unset, .unset, .unset, .unset, .unset] [(.int ((0 : Int32) + (1 : Int32)))])) _
    rw [show ((0 : Int32) + (1 : Int32)) = (1 : Int32) from by decide]
    refine XS.istore X0.here hx rfl (hb hby at_5) rfl (l' := #[.val (.int p0), .val (.int p1), .val (.long p2), .second, .val (.int 1), .unset, .unset, .unset, .unset, .unset, .unset, .unset, .unset, .unset, .unset]) rfl ?_
    show Steps p.tables e below (s₁.setTop (mkF m 7 #[.val (.int p0), .val (.int p1), .val (.long p2), .second, .val (.int 1), .unset, .unset, .unset, .unset, .unset, .unset, .unset, .unset, .unset, .unset] [])) _
    refine st1 _ ?_
    show Steps p.tables e below (T1.setTop (mkF m 20 #[.val (.int p0), .val (.int p1), .val (.long p2), .second, .val (.int 1), .val (.int 1), .unset, .unset, .unset, .unset, .unset, .unset, .unset, .unset, .unset] [])) _
    refine st2 _ ?_
    show Steps p.tables e below (T2.setTop (mkF m 39 #[.val (.int p0), .val (.int p1), .val (.long p2), .second, .val (.int 1), .val (.int 1), .val (.int 0), .unset, .unset, .unset, .unset, .unset, .unset, .unset, .unset] [])) _
    refine st3 _ ?_
    show Steps p.tables e below (T3.setTop (mkF m 58 #[.val (.int p0), .val (.int p1), .val (.long p2), .second, .val (.int 1), .val (.int 1), .val (.int 0), .val (.int 0), .unset, .unset, .unset, .unset, .unset, .unset, .unset] [])) _
    refine st4 _ ?_
    show Steps p.tables e below (T4.setTop (mkF m 78 #[.val (.int p0), .val (.int p1), .val (.long p2), .second, .val (.int 1), .val (.int 1), .val (.int 0), .val (.int 0), .val (.int 0), .unset, .unset, .unset, .unset, .unset, .unset] [])) _
    refine st5 _ ?_
    show Steps p.tables e below (T5.setTop (mkF m 90 #[.val (.int p0), .val (.int p1), .val (.long p2), .second, .val (.int 1), .val (.int 1), .val (.int 0), .val (.int 0), .val (.int 0), .val (.long jam), .second, .val (.long 9223372036854775807), .second, .unset, .unset] [])) _
    refine st6 _ ?_
    show Steps p.tables e below (T6.setTop (mkF m 101 #[.val (.int p0), .val (.int p1), .val (.long p2), .second, .val (.int 1), .val (.int 1), .val (.int 0), .val (.int 0), .val (.int 0), .val (.long jam), .second, .val (.long 9223372036854775807), .second, .val (.ref b28), .unset] [])) _
    refine st7 _ ?_
    show Steps p.tables e below (T7.setTop (mkF m 116 #[.val (.int p0), .val (.int p1), .val (.long p2), .second, .val (.int 1), .val (.int 1), .val (.int 0), .val (.int 0), .val (.int 0), .val (.long jam), .second, .val (.long 9223372036854775807), .second, .val (.ref b28), .unset] [])) _
    refine st10 _ ?_
    show Steps p.tables e below (T10.setTop (mkF m 131 #[.val (.int p0), .val (.int p1), .val (.long p2), .second, .val (.int 1), .val (.int 1), .val (.int 0), .val (.int 0), .val (.int 0), .val (.long jam), .second, .val (.long 9223372036854775807), .second, .val (.ref b28), .unset] [])) _
    refine st11 _ ?_
    show Steps p.tables e below (T11.setTop (mkF m 146 #[.val (.int p0), .val (.int p1), .val (.long p2), .second, .val (.int 1), .val (.int 1), .val (.int 0), .val (.int 0), .val (.int 0), .val (.long jam), .second, .val (.long 9223372036854775807), .second, .val (.ref b28), .unset] [])) _
    refine st12 _ ?_
    show Steps p.tables e below (T12.setTop (mkF m 161 #[.val (.int p0), .val (.int p1), .val (.long p2), .second, .val (.int 1), .val (.int 1), .val (.int 0), .val (.int 0), .val (.int 0), .val (.long jam), .second, .val (.long 9223372036854775807), .second, .val (.ref b28), .unset] [])) _
    refine st13 _ ?_
    show Steps p.tables e below (T13.setTop (mkF m 179 #[.val (.int p0), .val (.int p1), .val (.long p2), .second, .val (.int 1), .val (.int 1), .val (.int 0), .val (.int 0), .val (.int 0), .val (.long jam), .second, .val (.long 9223372036854775807), .second, .val (.ref b28), .val (.int 1)] [])) _
    refine st16 _ ?_
    show Steps p.tables e below (T16.setTop (mkF m 208 #[.val (.int p0), .val (.int p1), .val (.long p2), .second, .val (.int 1), .val (.int 1), .val (.int 0), .val (.int 0), .val (.int 0), .val (.long jam), .second, .val (.long 9223372036854775807), .second, .val (.ref b28), .val (.int 1)] [])) _
    refine st17 _ ?_
    show Steps p.tables e below (T17.setTop (mkF m 237 #[.val (.int p0), .val (.int p1), .val (.long p2), .second, .val (.int 1), .val (.int 1), .val (.int 0), .val (.int 0), .val (.int 0), .val (.long jam), .second, .val (.long 9223372036854775807), .second, .val (.ref b28), .val (.int 1)] [])) _
    refine st18 _ ?_
    refine XS.iload X18.here hx rfl (hb hby at_266) rfl ?_
    show Steps p.tables e below (T18.setTop (mkF m 268 #[.val (.int p0), .val (.int p1), .val (.long p2), .second, .val (.int 1), .val (.int 1), .val (.int 0), .val (.int 0), .val (.int 0), .val (.long jam), .second, .val (.long 9223372036854775807), .second, .val (.ref b28), .val (.int 1)] [(.int 1)])) _
    exact retN X18 hx (t := .boolean) Bd.returns (by simp) (hb hby at_268) hr
  · show QT n0 _ T18.heap _
    rw [e18]
    exact ⟨rfl, N18⟩
set_option maxRecDepth 65536 in
set_option maxHeartbeats 40000000 in
theorem sg20_49 {p : Program} {l : Launch} {e : Env} {s : State} {m : MethodId} {below : List Frame} {meth : Method} {c : Code} {T0 : State} {locs : List Loc} {Z : State} {a0 : Array Value} (p0 : Int32) (p1 : Int32) (p2 : Int64) (gq5 : Int32) {h0 : Heap} {n0 : Nat} (X0 : Stand p l e room_1 s m #[(.int p0), (.int p1), (.long p2)] below meth c T0 locs 0 0) (hx : p.tables.exec = Jvm.exec) (hZ : Z.Warmed39 s.vm) (hw : ∀ d ∈ tables_1, d.before a0 Z = true) (hby : c.code = code) (hml : c.maxLocals = 15) (hown : s.vm.findClass "hexwright/engine/SealedBidsHasBidPinLaw" = some m.cls) (e0 : T0.heap = h0) (N0 : Fr n0 locs) (Z0 : n0 ≤ h0.size) (f1 : (p1 &&& (2 : Int32)) = (0 : Int32)) :
    ∃ (T : State) (L : List Loc), Stand p l e room_1 s m #[(.int p0), (.int p1), (.long p2)] below meth c T L 0 0 ∧ T.heap = h0 ∧ Fr n0 L ∧ (∀ target, Steps p.tables e below (T.setTop (mkF m 39 #[.val (.int p0), .val (.int p1), .val (.long p2), .second, .val (.int 2), .val (.int gq5), .val (.int 0), .unset, .unset, .unset, .unset, .unset, .unset, .unset, .unset] [])) target → Steps p.tables e below (T0.setTop (mkF m 20 #[.val (.int p0), .val (.int p1), .val (.long p2), .second, .val (.int 2), .val (.int gq5), .unset, .unset, .unset, .unset, .unset, .unset, .unset, .unset, .unset] [])) target) := by
  refine ⟨T0, _, X0, e0, N0, fun target kt => ?_⟩
  show Steps p.tables e below (T0.setTop (mkF m 20 #[.val (.int p0), .val (.int p1), .val (.long p2), .second, .val (.int 2), .val (.int gq5), .unset, .unset, .unset, .unset, .unset, .unset, .unset, .unset, .unset] [])) _
  refine XS.iload X0.here hx rfl (hb hby at_20) rfl ?_
  refine XS.iconst X0.here hx rfl (hb hby at_22) ?_
  refine XS.icmpNo X0.here hx rfl (hb hby at_23) rfl (by decide) ?_
  refine XS.iloadN X0.here hx rfl (hb hby at_26) rfl ?_
  refine XS.iconst X0.here hx rfl (hb hby at_27) ?_
  show Steps p.tables e below (T0.setTop (mkF m 28 #[.val (.int p0), .val (.int p1), .val (.long p2), .second, .val (.int 2), .val (.int gq5), .unset, .unset, .unset, .unset, .unset, .unset, .unset, .unset, .unset] [(.int 2), (.int p1)])) _
  refine XS.iand X0.here hx rfl (hb hby at_28) rfl ?_
  refine XS.ifYes X0.here hx rfl (pc0 := 29) (pc' := 36) rfl (hb hby at_29) rfl ((if0 _ _).trans (teq (f1 : (p1 &&& (2 : Int32)) = (0 : Int32))).1) (by decide) (by decide) ?_
  refine XS.iconst X0.here hx rfl (hb hby at_36) ?_
  refine XS.istore X0.here hx rfl (hb hby at_37) rfl (l' := #[.val (.int p0), .val (.int p1), .val (.long p2), .second, .val (.int 2), .val (.int gq5), .val (.int 0), .unset, .unset, .unset, .unset, .unset, .unset, .unset, .unset]) rfl ?_
  show Steps p.tables e below (T0.setTop (mkF m 39 #[.val (.int p0), .val (.int p1), .val (.long p2), .second, .val (.int 2), .val (.int gq5), .val (.int 0), .unset, .unset, .unset, .unset, .unset, .unset, .unset, .unset] [])) _
  exact kt
set_option maxRecDepth 65536 in
set_option maxHeartbeats 40000000 in
theorem sg39_50 {p : Program} {l : Launch} {e : Env} {s : State} {m : MethodId} {below : List Frame} {meth : Method} {c : Code} {T0 : State} {locs : List Loc} {Z : State} {a0 : Array Value} (p0 : Int32) (p1 : Int32) (p2 : Int64) (gq5 : Int32) (gq6 : Int32) {h0 : Heap} {n0 : Nat} (X0 : Stand p l e room_1 s m #[(.int p0), (.int p1), (.long p2)] below meth c T0 locs 0 0) (hx : p.tables.exec = Jvm.exec) (hZ : Z.Warmed39 s.vm) (hw : ∀ d ∈ tables_1, d.before a0 Z = true) (hby : c.code = code) (hml : c.maxLocals = 15) (hown : s.vm.findClass "hexwright/engine/SealedBidsHasBidPinLaw" = some m.cls) (e0 : T0.heap = h0) (N0 : Fr n0 locs) (Z0 : n0 ≤ h0.size) :
    ∃ (T : State) (L : List Loc), Stand p l e room_1 s m #[(.int p0), (.int p1), (.long p2)] below meth c T L 0 0 ∧ T.heap = h0 ∧ Fr n0 L ∧ (∀ target, Steps p.tables e below (T.setTop (mkF m 58 #[.val (.int p0), .val (.int p1), .val (.long p2), .second, .val (.int 2), .val (.int gq5), .val (.int gq6), .val (.int 0), .unset, .unset, .unset, .unset, .unset, .unset, .unset] [])) target → Steps p.tables e below (T0.setTop (mkF m 39 #[.val (.int p0), .val (.int p1), .val (.long p2), .second, .val (.int 2), .val (.int gq5), .val (.int gq6), .unset, .unset, .unset, .unset, .unset, .unset, .unset, .unset] [])) target) := by
  refine ⟨T0, _, X0, e0, N0, fun target kt => ?_⟩
  show Steps p.tables e below (T0.setTop (mkF m 39 #[.val (.int p0), .val (.int p1), .val (.long p2), .second, .val (.int 2), .val (.int gq5), .val (.int gq6), .unset, .unset, .unset, .unset, .unset, .unset, .unset, .unset] [])) _
  refine XS.iload X0.here hx rfl (hb hby at_39) rfl ?_
  refine XS.iconst X0.here hx rfl (hb hby at_41) ?_
  refine XS.icmpYes X0.here hx rfl (pc0 := 42) (pc' := 55) rfl (hb hby at_42) rfl (by decide) (by decide) (by decide) ?_
  refine XS.iconst X0.here hx rfl (hb hby at_55) ?_
  refine XS.istore X0.here hx rfl (hb hby at_56) rfl (l' := #[.val (.int p0), .val (.int p1), .val (.long p2), .second, .val (.int 2), .val (.int gq5), .val (.int gq6), .val (.int 0), .unset, .unset, .unset, .unset, .unset, .unset, .unset]) rfl ?_
  show Steps p.tables e below (T0.setTop (mkF m 58 #[.val (.int p0), .val (.int p1), .val (.long p2), .second, .val (.int 2), .val (.int gq5), .val (.int gq6), .val (.int 0), .unset, .unset, .unset, .unset, .unset, .unset, .unset] [])) _
  exact kt
set_option maxRecDepth 65536 in
set_option maxHeartbeats 40000000 in
theorem sg58_51 {p : Program} {l : Launch} {e : Env} {s : State} {m : MethodId} {below : List Frame} {meth : Method} {c : Code} {T0 : State} {locs : List Loc} {Z : State} {a0 : Array Value} (p0 : Int32) (p1 : Int32) (p2 : Int64) (gq5 : Int32) (gq6 : Int32) (gq7 : Int32) {h0 : Heap} {n0 : Nat} (X0 : Stand p l e room_1 s m #[(.int p0), (.int p1), (.long p2)] below meth c T0 locs 0 0) (hx : p.tables.exec = Jvm.exec) (hZ : Z.Warmed39 s.vm) (hw : ∀ d ∈ tables_1, d.before a0 Z = true) (hby : c.code = code) (hml : c.maxLocals = 15) (hown : s.vm.findClass "hexwright/engine/SealedBidsHasBidPinLaw" = some m.cls) (e0 : T0.heap = h0) (N0 : Fr n0 locs) (Z0 : n0 ≤ h0.size) :
    ∃ (T : State) (L : List Loc), Stand p l e room_1 s m #[(.int p0), (.int p1), (.long p2)] below meth c T L 0 0 ∧ T.heap = h0 ∧ Fr n0 L ∧ (∀ target, Steps p.tables e below (T.setTop (mkF m 78 #[.val (.int p0), .val (.int p1), .val (.long p2), .second, .val (.int 2), .val (.int gq5), .val (.int gq6), .val (.int gq7), .val (.int 0), .unset, .unset, .unset, .unset, .unset, .unset] [])) target → Steps p.tables e below (T0.setTop (mkF m 58 #[.val (.int p0), .val (.int p1), .val (.long p2), .second, .val (.int 2), .val (.int gq5), .val (.int gq6), .val (.int gq7), .unset, .unset, .unset, .unset, .unset, .unset, .unset] [])) target) := by
  refine ⟨T0, _, X0, e0, N0, fun target kt => ?_⟩
  show Steps p.tables e below (T0.setTop (mkF m 58 #[.val (.int p0), .val (.int p1), .val (.long p2), .second, .val (.int 2), .val (.int gq5), .val (.int gq6), .val (.int gq7), .unset, .unset, .unset, .unset, .unset, .unset, .unset] [])) _
  refine XS.iload X0.here hx rfl (hb hby at_58) rfl ?_
  refine XS.iconst X0.here hx rfl (hb hby at_60) ?_
  refine XS.icmpYes X0.here hx rfl (pc0 := 61) (pc' := 75) rfl (hb hby at_61) rfl (by decide) (by decide) (by decide) ?_
  refine XS.iconst X0.here hx rfl (hb hby at_75) ?_
  refine XS.istore X0.here hx rfl (hb hby at_76) rfl (l' := #[.val (.int p0), .val (.int p1), .val (.long p2), .second, .val (.int 2), .val (.int gq5), .val (.int gq6), .val (.int gq7), .val (.int 0), .unset, .unset, .unset, .unset, .unset, .unset]) rfl ?_
  show Steps p.tables e below (T0.setTop (mkF m 78 #[.val (.int p0), .val (.int p1), .val (.long p2), .second, .val (.int 2), .val (.int gq5), .val (.int gq6), .val (.int gq7), .val (.int 0), .unset, .unset, .unset, .unset, .unset, .unset] [])) _
  exact kt
abbrev R_1_1_2_12 : Room := { frames := 1, cells := 1, slots := 2, locals := 12 }
def Q1_56 (Z : State) (c0_a : Addr) (h0 : Heap) (n0 : Nat) (v : Option Value) (h : Heap) (L : List Loc) : Prop := ∃ (b53 : Addr) (kc54 : ClassId), v = none ∧ Fr n0 L ∧ Keep h0 h [c0_a] ∧ h0.size ≤ b53 ∧ F_0 Z h c0_a (.ref b53) ∧ Arv Z h b53 kc54 (.object "java/lang/Long") (2 : Int32) [.null, .null] .null ∧ Ovr Z kc54 "java/lang/Long"
set_option maxRecDepth 65536 in
set_option maxHeartbeats 40000000 in
theorem rm1_55 (l : Launch) (Z : State) (a0 : Array Value) (hw : ∀ d ∈ tables_1, d.before a0 Z = true) (ws : List Jvm.Cond) (c0_a : Addr) (h0 : Heap) (n0 : Nat) (Z0 : n0 ≤ h0.size) (f1 : F_0 Z h0 c0_a .null) (f2 : E_1 Z h0 c0_a) (f3 : n0 ≤ c0_a) :
    MetFree l M_0 (head1 (Jvm.Cond.code M_0 prog_14_method_1_code 2 none :: ws) R_1_1_2_12) (fun a U => a = #[(.ref c0_a), (.int 2)] ∧ Z.Warmed39 U.vm ∧ U.heap = h0) (fun _ _ _ _ _ => True) (fun _ U o U' => ∃ v L, o = .returned v ∧ Q1_56 Z c0_a h0 n0 v U'.heap L ∧ FrameEnd U o U' L R_1_1_2_12.cells R_1_1_2_12.slots) := by
  refine MetFree.of_bodySF (plainFor_of_name pn_hexwright_engine_SealedBids) hisR ?_
  intro p e s m args below meth c s₁ Bd hml0 hP hK
  obtain ⟨rfl, hZ, hh⟩ := hP
  have hx := Bd.exec
  have hby := Bd.bytes
  have hml : c.maxLocals = 2 := hml0
  have hown : s.vm.findClass "hexwright/engine/SealedBids" = some m.cls := findClass_of_methodNamed Bd.named
  have hnm := (name_of_methodNamed Bd.named Bd.method).1
  have X0 : Stand p l e R_1_1_2_12 s m #[(.ref c0_a), (.int 2)] below meth c s₁ [] 0 0 := Stand.of_body Bd
  have e0 : s₁.heap = h0 := by rw [← hh, Bd.state]; rfl
  have N0 := Fr.nil n0
  obtain ⟨T1, X1, e1, st1⟩ := initO X0 hx hZ hown (tw_7 hw) (tw_8 hw) (tw_9 hw) e0 (g := (mkF m 1 #[.val (.ref c0_a), .val (.int 2)] [(.ref c0_a)])) rfl (by rw [hml]; rfl) rfl (hb hby d1_1) (by decide) (W := 0) (by show 2 * 0 + _ ≤ _; exact Nat.le_of_eq rfl) (by decide)
  obtain ⟨T2, h2, k2, X2, e2, E2, A2, O2, st2⟩ := newR X1 hx hZ hown (tw_10 hw) (tw_11 hw) e1 (g := (mkF m 6 #[.val (.ref c0_a), .val (.int 2)] [(.int 2), (.ref c0_a)])) rfl (hb hby d1_6) rfl (by decide : ¬ ((2 : Int32) < (0 : Int32))) (cap := 2) (by decide : (2 : Int32).toNatClampNeg ≤ 2) (by decide) (by decide) (by decide)
  obtain ⟨b53, g2⟩ : ∃ z, z = h0.size := ⟨_, rfl⟩
  rw [← g2] at A2 st2
  obtain ⟨kc54, gk2⟩ : ∃ z, z = k2 := ⟨_, rfl⟩
  rw [← gk2] at A2 O2
  have sz_b53 : h0.size ≤ b53 := Nat.le_trans (Nat.le_refl _) (Nat.le_of_eq g2.symm)
  have g_b53 : n0 ≤ b53 := Nat.le_trans Z0 sz_b53
  have KK2 : Keep h0 h2 [c0_a] := (Keep.refl h0 [c0_a]).ext E2
  have V2 : Arv Z h2 b53 kc54 (.object "java/lang/Long") (2 : Int32) [.null, .null] .null := (Arv.new A2 (by decide)).pad (pad_rep [] .null 2)
  have u3 : F_0 Z h2 c0_a .null := Fld.ext E2 f1
  have u4 : E_1 Z h2 c0_a := Exa.ext E2 f2
  obtain ⟨T5, h5, X5, e5, W5, st5⟩ := putF X2 hx hZ hown (host := "") (Or.inl (tw_12 hw)) Via.refl e2 u3 u4 (Or.inr ⟨(tw_13 hw), rfl, hnm⟩) (tw_2 hw) (ty := (.array (.object "java/lang/Long"))) (by decide) rfl rfl (g := (mkF m 9 #[.val (.ref c0_a), .val (.int 2)] [(.ref b53), (.ref c0_a)])) rfl rfl (hb hby d1_9)
  have Fw5 : F_0 Z h5 c0_a (.ref b53) := Fld.same W5 u3
  have KK5 : Keep h0 h5 [c0_a] := KK2.wr W5 (Or.inl (List.mem_of_getElem? (i := 0) rfl))
  have N5 := Fr.snoc X5 N0 f3
  have ne6 : c0_a ≠ b53 := Nat.ne_of_lt (Nat.lt_of_lt_of_le (Exa.lt f2) (Nat.le_of_eq g2.symm))
  have u7 : Arv Z h5 b53 kc54 (.object "java/lang/Long") (2 : Int32) [.null, .null] .null := Arv.other V2 W5 (Ne.symm ne6)
  obtain ⟨fs, hr, hrun, hended, hW, hsame⟩ := X5.leave (v := none) (fun _ => rfl)
  refine ⟨_, _, castTop (ef1_RI m c0_a (2 : Int32)) ?_, hrun, hended, _, _, rfl, ?_, ⟨_, rfl⟩, hW, hsame.mono (by decide) (by decide)⟩
  · show Steps p.tables e below (s₁.setTop (mkF m 0 #[.val (.ref c0_a), .val (.int 2)] [])) _
    refine XS.aloadN X0.here hx rfl (hb hby d1_0) rfl rfl ?_
    show Steps p.tables e below (s₁.setTop (mkF m 1 #[.val (.ref c0_a), .val (.int 2)] [(.ref c0_a)])) _
    refine st1 _ ?_
    refine XS.aloadN X1.here hx rfl (hb hby d1_4) rfl rfl ?_
    refine XS.iloadN X1.here hx rfl (hb hby d1_5) rfl ?_
    show Steps p.tables e below (T1.setTop (mkF m 6 #[.val (.ref c0_a), .val (.int 2)] [(.int 2), (.ref c0_a)])) _
    refine st2 _ ?_
    show Steps p.tables e below (T2.setTop (mkF m 9 #[.val (.ref c0_a), .val (.int 2)] [(.ref b53), (.ref c0_a)])) _
    refine st5 _ ?_
    show Steps p.tables e below (T5.setTop (mkF m 12 #[.val (.ref c0_a), .val (.int 2)] [])) _
    exact X5.returnOut hx Bd.returns (hb hby d1_12) hr
  · show Q1_56 Z c0_a h0 n0 _ T5.heap _
    rw [e5]
    exact ⟨b53, kc54, rfl, N5, KK5, sz_b53, Fw5, u7, O2⟩
set_option maxRecDepth 65536 in
set_option maxHeartbeats 40000000 in
theorem sg90_59 {p : Program} {l : Launch} {e : Env} {s : State} {m : MethodId} {below : List Frame} {meth : Method} {c : Code} {T0 : State} {locs : List Loc} {Z : State} {a0 : Array Value} (p0 : Int32) (p1 : Int32) (p2 : Int64) (gq5 : Int32) (gq6 : Int32) (gq7 : Int32) (gq8 : Int32) (jam : Int64) (gq11 : Int64) {h0 : Heap} {n0 : Nat} (X0 : Stand p l e room_1 s m #[(.int p0), (.int p1), (.long p2)] below meth c T0 locs 0 0) (hx : p.tables.exec = Jvm.exec) (hZ : Z.Warmed39 s.vm) (hw : ∀ d ∈ tables_1, d.before a0 Z = true) (hby : c.code = code) (hml : c.maxLocals = 15) (hown : s.vm.findClass "hexwright/engine/SealedBidsHasBidPinLaw" = some m.cls) (e0 : T0.heap = h0) (N0 : Fr n0 locs) (Z0 : n0 ≤ h0.size) :
    ∃ (T : State) (h : Heap) (L : List Loc) (b52 : Addr) (b57 : Addr) (kc58 : ClassId), Stand p l e room_1 s m #[(.int p0), (.int p1), (.long p2)] below meth c T L 2 3 ∧ T.heap = h ∧ Fr n0 L ∧ Keep h0 h [] ∧ h0.size ≤ b52 ∧ h0.size ≤ b57 ∧ E_1 Z h b52 ∧ F_0 Z h b52 (.ref b57) ∧ Arv Z h b57 kc58 (.object "java/lang/Long") (2 : Int32) [.null, .null] .null ∧ Ovr Z kc58 "java/lang/Long" ∧ b52 ≠ b57 ∧ (∀ target, Steps p.tables e below (T.setTop (mkF m 101 #[.val (.int p0), .val (.int p1), .val (.long p2), .second, .val (.int 2), .val (.int gq5), .val (.int gq6), .val (.int gq7), .val (.int gq8), .val (.long jam), .second, .val (.long gq11), .second, .val (.ref b52), .unset] [])) target → Steps p.tables e below (T0.setTop (mkF m 90 #[.val (.int p0), .val (.int p1), .val (.long p2), .second, .val (.int 2), .val (.int gq5), .val (.int gq6), .val (.int gq7), .val (.int gq8), .val (.long jam), .second, .val (.long gq11), .second, .unset, .unset] [])) target) := by
  obtain ⟨T1, h1, X1, e1, E1, A1, D1, -, st1⟩ := newO X0 hx hZ hown (tw_1 hw) (tw_2 hw) (tw_3 hw) e0 (g := (mkF m 90 #[.val (.int p0), .val (.int p1), .val (.long p2), .second, .val (.int 2), .val (.int gq5), .val (.int gq6), .val (.int gq7), .val (.int gq8), .val (.long jam), .second, .val (.long gq11), .second, .unset, .unset] [])) rfl (hb hby at_90) (by decide) (by decide)
  obtain ⟨b52, g1⟩ : ∃ z, z = h0.size := ⟨_, rfl⟩
  rw [← g1] at A1 D1 st1
  have sz_b52 : h0.size ≤ b52 := Nat.le_trans (Nat.le_refl _) (Nat.le_of_eq g1.symm)
  have g_b52 : n0 ≤ b52 := Nat.le_trans Z0 sz_b52
  have KK1 : Keep h0 h1 [] := (Keep.refl h0 []).ext E1
  have F1_13 : F_0 Z h1 b52 .null := D1 (Or.inr (tw_13 hw)) (ty := (.array (.object "java/lang/Long"))) (by decide)
  -- pc 96: hexwright/engine/SealedBids.<init>
  obtain ⟨_, _, ⟨T2, L2, k2, n2⟩, -, X2, ⟨Lc2, hQ2, l2, y2, z2⟩, st2⟩ := X1.specialBack hx (y := M_0) rfl hown (mvT hZ (tw_4 hw)) (mvT hZ (tw_5 hw)) (mvT hZ (tw_6 hw)) (by decide) (backOf (W := 1) (rm1_55 l Z a0 hw [] b52 h1 n0 (Nat.le_trans Z0 KK1.1) F1_13 A1 g_b52) hZ (tw_6 hw) (tw_3 hw) (by decide) (by decide)) (g := (mkF m 96 #[.val (.int p0), .val (.int p1), .val (.long p2), .second, .val (.int 2), .val (.int gq5), .val (.int gq6), .val (.int gq7), .val (.int gq8), .val (.long jam), .second, .val (.long gq11), .second, .unset, .unset] [(.int 2), (.ref b52), (.ref b52)])) rfl (by rw [hml]; rfl) (Steps.refl _) (a := b52) (argsL := [(.int 2)]) (rest := [(.ref b52)]) (lenOf pd_0 rfl) rfl (by show 2 * 0 + _ ≤ _; exact Nat.le_of_eq rfl) (hb hby at_96) (fun _ _ => ⟨rfl, e1, (by decide : 1 + 1 ≤ _), (by decide : 1 + 2 ≤ _)⟩)
  dsimp only [Pt.U, Pt.locs, Pt.cells, Pt.slots] at X2 l2 y2 z2 st2 hQ2
  subst l2 y2 z2
  obtain ⟨b57, kc58, rfl, Nq2, K2, le_b57, o2_0, o2_1, o2_2⟩ := hQ2
  have N2 := Fr.app N0 Nq2
  have sz_b57 : h0.size ≤ b57 := Nat.le_trans KK1.1 le_b57
  have g_b57 : n0 ≤ b57 := Nat.le_trans Z0 sz_b57
  have KK2 : Keep h0 T2.heap [] := KK1.trans K2 (fun x hx => (List.mem_cons.mp hx).elim (fun q => q ▸ (Or.inr sz_b52)) (fun hx => nomatch hx))
  have u3 : E_1 Z T2.heap b52 := Exa.keep A1 K2
  have ne4 : b52 ≠ b57 := Nat.ne_of_lt (Nat.lt_of_lt_of_le (Exa.lt A1) le_b57)
  refine ⟨T2, _, _, b52, b57, kc58, X2, rfl, N2, KK2, sz_b52, sz_b57, u3, o2_0, o2_1, o2_2, ne4, fun target kt => ?_⟩
  show Steps p.tables e below (T0.setTop (mkF m 90 #[.val (.int p0), .val (.int p1), .val (.long p2), .second, .val (.int 2), .val (.int gq5), .val (.int gq6), .val (.int gq7), .val (.int gq8), .val (.long jam), .second, .val (.long gq11), .second, .unset, .unset] [])) _
  refine st1 _ ?_
  refine XS.dup X1.here hx rfl (hb hby at_93) rfl rfl ?_
  refine XS.iload X1.here hx rfl (hb hby at_94) rfl ?_
  show Steps p.tables e below (T1.setTop (mkF m 96 #[.val (.int p0), .val (.int p1), .val (.long p2), .second, .val (.int 2), .val (.int gq5), .val (.int gq6), .val (.int gq7), .val (.int gq8), .val (.long jam), .second, .val (.long gq11), .second, .unset, .unset] [(.int 2), (.ref b52), (.ref b52)])) _
  refine st2.trans ?_
  refine XS.astore X2.here hx rfl (hb hby at_99) rfl rfl (l' := #[.val (.int p0), .val (.int p1), .val (.long p2), .second, .val (.int 2), .val (.int gq5), .val (.int gq6), .val (.int gq7), .val (.int gq8), .val (.long jam), .second, .val (.long gq11), .second, .val (.ref b52), .unset]) rfl ?_
  show Steps p.tables e below (T2.setTop (mkF m 101 #[.val (.int p0), .val (.int p1), .val (.long p2), .second, .val (.int 2), .val (.int gq5), .val (.int gq6), .val (.int gq7), .val (.int gq8), .val (.long jam), .second, .val (.long gq11), .second, .val (.ref b52), .unset] [])) _
  exact kt
set_option maxRecDepth 65536 in
set_option maxHeartbeats 40000000 in
theorem sg101_63 {p : Program} {l : Launch} {e : Env} {s : State} {m : MethodId} {below : List Frame} {meth : Method} {c : Code} {T0 : State} {locs : List Loc} {Z : State} {a0 : Array Value} (p0 : Int32) (p1 : Int32) (p2 : Int64) (gq4 : Int32) (gq6 : Int32) (gq7 : Int32) (gq8 : Int32) (jam : Int64) (c0_a : Addr) {h0 : Heap} {n0 : Nat} (X0 : Stand p l e room_1 s m #[(.int p0), (.int p1), (.long p2)] below meth c T0 locs 2 3) (hx : p.tables.exec = Jvm.exec) (hZ : Z.Warmed39 s.vm) (hw : ∀ d ∈ tables_1, d.before a0 Z = true) (hby : c.code = code) (hml : c.maxLocals = 15) (hown : s.vm.findClass "hexwright/engine/SealedBidsHasBidPinLaw" = some m.cls) (e0 : T0.heap = h0) (N0 : Fr n0 locs) (Z0 : n0 ≤ h0.size) :
    ∃ (T : State) (L : List Loc), Stand p l e room_1 s m #[(.int p0), (.int p1), (.long p2)] below meth c T L 3 4 ∧ T.heap = h0 ∧ Fr n0 L ∧ (∀ target, Steps p.tables e below (T.setTop (mkF m 116 #[.val (.int p0), .val (.int p1), .val (.long p2), .second, .val (.int gq4), .val (.int 0), .val (.int gq6), .val (.int gq7), .val (.int gq8), .val (.long jam), .second, .val (.long 9223372036854775807), .second, .val (.ref c0_a), .unset] [])) target → Steps p.tables e below (T0.setTop (mkF m 101 #[.val (.int p0), .val (.int p1), .val (.long p2), .second, .val (.int gq4), .val (.int 0), .val (.int gq6), .val (.int gq7), .val (.int gq8), .val (.long jam), .second, .val (.long 9223372036854775807), .second, .val (.ref c0_a), .unset] [])) target) := by
  refine ⟨T0, _, (X0.more (by decide) (by decide)), e0, N0, fun target kt => ?_⟩
  show Steps p.tables e below (T0.setTop (mkF m 101 #[.val (.int p0), .val (.int p1), .val (.long p2), .second, .val (.int gq4), .val (.int 0), .val (.int gq6), .val (.int gq7), .val (.int gq8), .val (.long jam), .second, .val (.long 9223372036854775807), .second, .val (.ref c0_a), .unset] [])) _
  refine XS.iload X0.here hx rfl (hb hby at_101) rfl ?_
  refine XS.ifYes X0.here hx rfl (pc0 := 103) (pc' := 116) rfl (hb hby at_103) rfl (by decide) (by decide) (by decide) ?_
  show Steps p.tables e below (T0.setTop (mkF m 116 #[.val (.int p0), .val (.int p1), .val (.long p2), .second, .val (.int gq4), .val (.int 0), .val (.int gq6), .val (.int gq7), .val (.int gq8), .val (.long jam), .second, .val (.long 9223372036854775807), .second, .val (.ref c0_a), .unset] [])) _
  exact kt
set_option maxRecDepth 65536 in
set_option maxHeartbeats 40000000 in
theorem sg116_64 {p : Program} {l : Launch} {e : Env} {s : State} {m : MethodId} {below : List Frame} {meth : Method} {c : Code} {T0 : State} {locs : List Loc} {Z : State} {a0 : Array Value} (p0 : Int32) (p1 : Int32) (p2 : Int64) (gq4 : Int32) (gq5 : Int32) (gq7 : Int32) (gq8 : Int32) (jam : Int64) (c0_a : Addr) {h0 : Heap} {n0 : Nat} (X0 : Stand p l e room_1 s m #[(.int p0), (.int p1), (.long p2)] below meth c T0 locs 3 4) (hx : p.tables.exec = Jvm.exec) (hZ : Z.Warmed39 s.vm) (hw : ∀ d ∈ tables_1, d.before a0 Z = true) (hby : c.code = code) (hml : c.maxLocals = 15) (hown : s.vm.findClass "hexwright/engine/SealedBidsHasBidPinLaw" = some m.cls) (e0 : T0.heap = h0) (N0 : Fr n0 locs) (Z0 : n0 ≤ h0.size) :
    ∃ (T : State) (L : List Loc), Stand p l e room_1 s m #[(.int p0), (.int p1), (.long p2)] below meth c T L 4 5 ∧ T.heap = h0 ∧ Fr n0 L ∧ (∀ target, Steps p.tables e below (T.setTop (mkF m 131 #[.val (.int p0), .val (.int p1), .val (.long p2), .second, .val (.int gq4), .val (.int gq5), .val (.int 0), .val (.int gq7), .val (.int gq8), .val (.long jam), .second, .val (.long 9223372036854775807), .second, .val (.ref c0_a), .unset] [])) target → Steps p.tables e below (T0.setTop (mkF m 116 #[.val (.int p0), .val (.int p1), .val (.long p2), .second, .val (.int gq4), .val (.int gq5), .val (.int 0), .val (.int gq7), .val (.int gq8), .val (.long jam), .second, .val (.long 9223372036854775807), .second, .val (.ref c0_a), .unset] [])) target) := by
  refine ⟨T0, _, (X0.more (by decide) (by decide)), e0, N0, fun target kt => ?_⟩
  show Steps p.tables e below (T0.setTop (mkF m 116 #[.val (.int p0), .val (.int p1), .val (.long p2), .second, .val (.int gq4), .val (.int gq5), .val (.int 0), .val (.int gq7), .val (.int gq8), .val (.long jam), .second, .val (.long 9223372036854775807), .second, .val (.ref c0_a), .unset] [])) _
  refine XS.iload X0.here hx rfl (hb hby at_116) rfl ?_
  refine XS.ifYes X0.here hx rfl (pc0 := 118) (pc' := 131) rfl (hb hby at_118) rfl (by decide) (by decide) (by decide) ?_
  show Steps p.tables e below (T0.setTop (mkF m 131 #[.val (.int p0), .val (.int p1), .val (.long p2), .second, .val (.int gq4), .val (.int gq5), .val (.int 0), .val (.int gq7), .val (.int gq8), .val (.long jam), .second, .val (.long 9223372036854775807), .second, .val (.ref c0_a), .unset] [])) _
  exact kt
set_option maxRecDepth 65536 in
set_option maxHeartbeats 40000000 in
theorem sg131_65 {p : Program} {l : Launch} {e : Env} {s : State} {m : MethodId} {below : List Frame} {meth : Method} {c : Code} {T0 : State} {locs : List Loc} {Z : State} {a0 : Array Value} (p0 : Int32) (p1 : Int32) (p2 : Int64) (gq4 : Int32) (gq5 : Int32) (gq6 : Int32) (gq8 : Int32) (jam : Int64) (c0_a : Addr) {h0 : Heap} {n0 : Nat} (X0 : Stand p l e room_1 s m #[(.int p0), (.int p1), (.long p2)] below meth c T0 locs 4 5) (hx : p.tables.exec = Jvm.exec) (hZ : Z.Warmed39 s.vm) (hw : ∀ d ∈ tables_1, d.before a0 Z = true) (hby : c.code = code) (hml : c.maxLocals = 15) (hown : s.vm.findClass "hexwright/engine/SealedBidsHasBidPinLaw" = some m.cls) (e0 : T0.heap = h0) (N0 : Fr n0 locs) (Z0 : n0 ≤ h0.size) :
    ∃ (T : State) (L : List Loc), Stand p l e room_1 s m #[(.int p0), (.int p1), (.long p2)] below meth c T L 5 6 ∧ T.heap = h0 ∧ Fr n0 L ∧ (∀ target, Steps p.tables e below (T.setTop (mkF m 146 #[.val (.int p0), .val (.int p1), .val (.long p2), .second, .val (.int gq4), .val (.int gq5), .val (.int gq6), .val (.int 0), .val (.int gq8), .val (.long jam), .second, .val (.long 9223372036854775807), .second, .val (.ref c0_a), .unset] [])) target → Steps p.tables e below (T0.setTop (mkF m 131 #[.val (.int p0), .val (.int p1), .val (.long p2), .second, .val (.int gq4), .val (.int gq5), .val (.int gq6), .val (.int 0), .val (.int gq8), .val (.long jam), .second, .val (.long 9223372036854775807), .second, .val (.ref c0_a), .unset] [])) target) := by
  refine ⟨T0, _, (X0.more (by decide) (by decide)), e0, N0, fun target kt => ?_⟩
  show Steps p.tables e below (T0.setTop (mkF m 131 #[.val (.int p0), .val (.int p1), .val (.long p2), .second, .val (.int gq4), .val (.int gq5), .val (.int gq6), .val (.int 0), .val (.int gq8), .val (.long jam), .second, .val (.long 9223372036854775807), .second, .val (.ref c0_a), .unset] [])) _
  refine XS.iload X0.here hx rfl (hb hby at_131) rfl ?_
  refine XS.ifYes X0.here hx rfl (pc0 := 133) (pc' := 146) rfl (hb hby at_133) rfl (by decide) (by decide) (by decide) ?_
  show Steps p.tables e below (T0.setTop (mkF m 146 #[.val (.int p0), .val (.int p1), .val (.long p2), .second, .val (.int gq4), .val (.int gq5), .val (.int gq6), .val (.int 0), .val (.int gq8), .val (.long jam), .second, .val (.long 9223372036854775807), .second, .val (.ref c0_a), .unset] [])) _
  exact kt
set_option maxRecDepth 65536 in
set_option maxHeartbeats 40000000 in
theorem sg146_66 {p : Program} {l : Launch} {e : Env} {s : State} {m : MethodId} {below : List Frame} {meth : Method} {c : Code} {T0 : State} {locs : List Loc} {Z : State} {a0 : Array Value} (p0 : Int32) (p1 : Int32) (p2 : Int64) (gq4 : Int32) (gq5 : Int32) (gq6 : Int32) (gq7 : Int32) (jam : Int64) (c0_a : Addr) {h0 : Heap} {n0 : Nat} (X0 : Stand p l e room_1 s m #[(.int p0), (.int p1), (.long p2)] below meth c T0 locs 5 6) (hx : p.tables.exec = Jvm.exec) (hZ : Z.Warmed39 s.vm) (hw : ∀ d ∈ tables_1, d.before a0 Z = true) (hby : c.code = code) (hml : c.maxLocals = 15) (hown : s.vm.findClass "hexwright/engine/SealedBidsHasBidPinLaw" = some m.cls) (e0 : T0.heap = h0) (N0 : Fr n0 locs) (Z0 : n0 ≤ h0.size) :
    ∃ (T : State) (L : List Loc), Stand p l e room_1 s m #[(.int p0), (.int p1), (.long p2)] below meth c T L 6 7 ∧ T.heap = h0 ∧ Fr n0 L ∧ (∀ target, Steps p.tables e below (T.setTop (mkF m 161 #[.val (.int p0), .val (.int p1), .val (.long p2), .second, .val (.int gq4), .val (.int gq5), .val (.int gq6), .val (.int gq7), .val (.int 0), .val (.long jam), .second, .val (.long 9223372036854775807), .second, .val (.ref c0_a), .unset] [])) target → Steps p.tables e below (T0.setTop (mkF m 146 #[.val (.int p0), .val (.int p1), .val (.long p2), .second, .val (.int gq4), .val (.int gq5), .val (.int gq6), .val (.int gq7), .val (.int 0), .val (.long jam), .second, .val (.long 9223372036854775807), .second, .val (.ref c0_a), .unset] [])) target) := by
  refine ⟨T0, _, (X0.more (by decide) (by decide)), e0, N0, fun target kt => ?_⟩
  show Steps p.tables e below (T0.setTop (mkF m 146 #[.val (.int p0), .val (.int p1), .val (.long p2), .second, .val (.int gq4), .val (.int gq5), .val (.int gq6), .val (.int gq7), .val (.int 0), .val (.long jam), .second, .val (.long 9223372036854775807), .second, .val (.ref c0_a), .unset] [])) _
  refine XS.iload X0.here hx rfl (hb hby at_146) rfl ?_
  refine XS.ifYes X0.here hx rfl (pc0 := 148) (pc' := 161) rfl (hb hby at_148) rfl (by decide) (by decide) (by decide) ?_
  show Steps p.tables e below (T0.setTop (mkF m 161 #[.val (.int p0), .val (.int p1), .val (.long p2), .second, .val (.int gq4), .val (.int gq5), .val (.int gq6), .val (.int gq7), .val (.int 0), .val (.long jam), .second, .val (.long 9223372036854775807), .second, .val (.ref c0_a), .unset] [])) _
  exact kt
set_option maxRecDepth 65536 in
set_option maxHeartbeats 40000000 in
theorem rm5_67 (l : Launch) (Z : State) (a0 : Array Value) (hw : ∀ d ∈ tables_1, d.before a0 Z = true) (ws : List Jvm.Cond) (c0_a : Addr) (c1_a : Addr) (c2_k : ClassId) (gx1 : Value) (h0 : Heap) (n0 : Nat) (Z0 : n0 ≤ h0.size) (f1 : F_0 Z h0 c0_a (.ref c1_a)) (f2 : Arv Z h0 c1_a c2_k (.object "java/lang/Long") (2 : Int32) [.null, gx1] .null) :
    MetFree l M_1 (head1 (Jvm.Cond.code M_1 prog_14_method_4_code 2 (some .boolean) :: ws) R_0_0_0_0) (fun a U => a = #[(.ref c0_a), (.int 1)] ∧ Z.Warmed39 U.vm ∧ U.heap = h0) (fun _ _ _ _ _ => True) (fun _ U o U' => ∃ v L, o = .returned v ∧ QP (some (.int 0)) h0 n0 v U'.heap L ∧ FrameEnd U o U' L R_0_0_0_0.cells R_0_0_0_0.slots) := by
  refine MetFree.of_bodySF (plainFor_of_name pn_hexwright_engine_SealedBids) hisR ?_
  intro p e s m args below meth c s₁ Bd hml0 hP hK
  obtain ⟨rfl, hZ, hh⟩ := hP
  have hx := Bd.exec
  have hby := Bd.bytes
  have hml : c.maxLocals = 2 := hml0
  have hown : s.vm.findClass "hexwright/engine/SealedBids" = some m.cls := findClass_of_methodNamed Bd.named
  have hnm := (name_of_methodNamed Bd.named Bd.method).1
  have X0 : Stand p l e R_0_0_0_0 s m #[(.ref c0_a), (.int 1)] below meth c s₁ [] 0 0 := Stand.of_body Bd
  have e0 : s₁.heap = h0 := by rw [← hh, Bd.state]; rfl
  have N0 := Fr.nil n0
  obtain ⟨T1, X1, e1, st1⟩ := getF X0 hx hZ hown (host := "") (Or.inl (tw_12 hw)) Via.refl e0 f1 (g := (mkF m 1 #[.val (.ref c0_a), .val (.int 1)] [(.ref c0_a)])) rfl rfl (hb hby d5_1)
  have va2 := f2
  obtain ⟨cl2, Ar2, -, S2, -, H2, -⟩ := va2
  have hin2 : ¬ ((0 : Int32) < 0 ∨ cl2.slots.size ≤ ((0 : Int32)).toNatClampNeg) := inb_of S2 ⟨by decide, by decide⟩
  have hat2 : cl2.slots[((0 : Int32)).toNatClampNeg]? = some .null := H2 _ (Nat.lt_of_not_le fun y => hin2 (Or.inr y))
  obtain ⟨fs, hr, hrun, hended, hW, hsame⟩ := X1.leave (v := (some (.int 0))) (fun h => by rw [Bd.returns] at h; cases h)
  refine ⟨_, _, castTop (ef5_RI m c0_a (1 : Int32)) ?_, hrun, hended, _, _, rfl, ?_, ⟨_, rfl⟩, hW, hsame.mono (by decide) (by decide)⟩
  · show Steps p.tables e below (s₁.setTop (mkF m 0 #[.val (.ref c0_a), .val (.int 1)] [])) _
    refine XS.aloadN X0.here hx rfl (hb hby d5_0) rfl rfl ?_
    show Steps p.tables e below (s₁.setTop (mkF m 1 #[.val (.ref c0_a), .val (.int 1)] [(.ref c0_a)])) _
    refine st1 _ ?_
    refine XS.iloadN X1.here hx rfl (hb hby d5_4) rfl ?_
    refine XS.iconst X1.here hx rfl (hb hby d5_5) ?_
    show Steps p.tables e below (T1.setTop (mkF m 6 #[.val (.ref c0_a), .val (.int 1)] [(.int 1), (.int 1), (.ref c1_a)])) _
    refine XS.isub X1.here hx rfl (hb hby d5_6) rfl ?_
    show Steps p.tables e below (T1.setTop (mkF m 7 #[.val (.ref c0_a), .val (.int 1)] [(.int ((1 : Int32) - (1 : Int32))), (.ref c1_a)])) _
    rw [show ((1 : Int32) - (1 : Int32)) = (0 : Int32) from by decide]
    show Steps p.tables e below (T1.setTop (mkF m 7 #[.val (.ref c0_a), .val (.int 1)] [(.int 0), (.ref c1_a)])) _
    refine X1.aaload hx (j := (0 : Int32)) (v := .null) (by rw [e1]; exact Ar2.1) (State.isArrayOf_alike hZ.alike Ar2.2.1) rfl Ar2.2.2 hin2 hat2 (g := (mkF m 7 #[.val (.ref c0_a), .val (.int 1)] [(.int 0), (.ref c1_a)])) rfl rfl (hb hby d5_7) _ ?_
    refine XS.ifnullYes X1.here hx rfl (pc0 := 8) (pc' := 15) rfl (hb hby d5_8) rfl (by decide) (by decide) ?_
    refine XS.iconst X1.here hx rfl (hb hby d5_15) ?_
    show Steps p.tables e below (T1.setTop (mkF m 16 #[.val (.ref c0_a), .val (.int 1)] [(.int 0)])) _
    exact retN X1 hx (t := .boolean) Bd.returns (by simp) (hb hby d5_16) hr
  · show QP (some (.int 0)) h0 n0 _ T1.heap _
    rw [e1]
    exact ⟨rfl, N0, rfl⟩
set_option maxRecDepth 65536 in
set_option maxHeartbeats 40000000 in
theorem sg161_68 {p : Program} {l : Launch} {e : Env} {s : State} {m : MethodId} {below : List Frame} {meth : Method} {c : Code} {T0 : State} {locs : List Loc} {Z : State} {a0 : Array Value} (p0 : Int32) (p1 : Int32) (p2 : Int64) (gq4 : Int32) (gq6 : Int32) (gq7 : Int32) (gq8 : Int32) (jam : Int64) (gq11 : Int64) (c0_a : Addr) (c1_a : Addr) (c2_k : ClassId) (gx1 : Value) {h0 : Heap} {n0 : Nat} (X0 : Stand p l e room_1 s m #[(.int p0), (.int p1), (.long p2)] below meth c T0 locs 6 7) (hx : p.tables.exec = Jvm.exec) (hZ : Z.Warmed39 s.vm) (hw : ∀ d ∈ tables_1, d.before a0 Z = true) (hby : c.code = code) (hml : c.maxLocals = 15) (hown : s.vm.findClass "hexwright/engine/SealedBidsHasBidPinLaw" = some m.cls) (e0 : T0.heap = h0) (N0 : Fr n0 locs) (Z0 : n0 ≤ h0.size) (f1 : F_0 Z h0 c0_a (.ref c1_a)) (f2 : Arv Z h0 c1_a c2_k (.object "java/lang/Long") (2 : Int32) [.null, gx1] .null) (f3 : E_1 Z h0 c0_a) :
    ∃ (T : State) (L : List Loc), Stand p l e room_1 s m #[(.int p0), (.int p1), (.long p2)] below meth c T L 6 7 ∧ T.heap = h0 ∧ Fr n0 L ∧ (∀ target, Steps p.tables e below (T.setTop (mkF m 179 #[.val (.int p0), .val (.int p1), .val (.long p2), .second, .val (.int gq4), .val (.int 0), .val (.int gq6), .val (.int gq7), .val (.int gq8), .val (.long jam), .second, .val (.long gq11), .second, .val (.ref c0_a), .val (.int 1)] [])) target → Steps p.tables e below (T0.setTop (mkF m 161 #[.val (.int p0), .val (.int p1), .val (.long p2), .second, .val (.int gq4), .val (.int 0), .val (.int gq6), .val (.int gq7), .val (.int gq8), .val (.long jam), .second, .val (.long gq11), .second, .val (.ref c0_a), .unset] [])) target) := by
  -- pc 164: hexwright/engine/SealedBids.hasBid
  obtain ⟨cq1, kq1, q1a, q1b, q1c⟩ := isOf hZ e0 f3
  obtain ⟨_, _, ⟨T1, L1, k1, n1⟩, -, X1, ⟨Lc1, hQ1, l1, y1, z1⟩, st1⟩ := X0.virtualBack hx (y := M_1) (z := M_1) hown (mvT hZ (tw_28 hw)) (mvT hZ (tw_29 hw)) (notFace_of_selects (args := #[]) (mvT hZ (tw_31 hw))) (mvT hZ (tw_31 hw)) (mvT hZ (tw_30 hw)) (by decide) (backOf (W := 0) (rm5_67 l Z a0 hw [] c0_a c1_a c2_k gx1 h0 n0 Z0 f1 f2) hZ (tw_32 hw) (tw_3 hw) (by decide) (by decide)) q1a q1c (g := (mkF m 164 #[.val (.int p0), .val (.int p1), .val (.long p2), .second, .val (.int gq4), .val (.int 0), .val (.int gq6), .val (.int gq7), .val (.int gq8), .val (.long jam), .second, .val (.long gq11), .second, .val (.ref c0_a), .unset] [(.int 1), (.ref c0_a)])) rfl (by rw [hml]; rfl) (Steps.refl _) (argsL := [(.int 1)]) (rest := []) (lenOf pd_1 rfl) rfl (by show 2 * 0 + _ ≤ _; exact Nat.le_of_eq rfl) (hb hby at_164) (fun _ _ => ⟨rfl, e0, (by decide : 6 + 0 ≤ _), (by decide : 7 + 0 ≤ _)⟩)
  dsimp only [Pt.U, Pt.locs, Pt.cells, Pt.slots] at X1 l1 y1 z1 st1 hQ1
  subst l1 y1 z1
  obtain ⟨rfl, Nq1, e1⟩ := hQ1
  have N1 := Fr.app N0 Nq1
  refine ⟨T1, _, X1, e1, N1, fun target kt => ?_⟩
  show Steps p.tables e below (T0.setTop (mkF m 161 #[.val (.int p0), .val (.int p1), .val (.long p2), .second, .val (.int gq4), .val (.int 0), .val (.int gq6), .val (.int gq7), .val (.int gq8), .val (.long jam), .second, .val (.long gq11), .second, .val (.ref c0_a), .unset] [])) _
  refine XS.aload X0.here hx rfl (hb hby at_161) rfl rfl ?_
  refine XS.iconst X0.here hx rfl (hb hby at_163) ?_
  show Steps p.tables e below (T0.setTop (mkF m 164 #[.val (.int p0), .val (.int p1), .val (.long p2), .second, .val (.int gq4), .val (.int 0), .val (.int gq6), .val (.int gq7), .val (.int gq8), .val (.long jam), .second, .val (.long gq11), .second, .val (.ref c0_a), .unset] [(.int 1), (.ref c0_a)])) _
  refine st1.trans ?_
  refine XS.iload X1.here hx rfl (hb hby at_167) rfl ?_
  refine XS.icmpNo X1.here hx rfl (hb hby at_169) rfl (by decide) ?_
  refine XS.iconst X1.here hx rfl (hb hby at_172) ?_
  refine XS.goto X1.here hx rfl (pc0 := 173) (pc' := 177) rfl (hb hby at_173) (by decide) (by decide) ?_
  show Steps p.tables e below (T1.setTop (mkF m 177 #[.val (.int p0), .val (.int p1), .val (.long p2), .second, .val (.int gq4), .val (.int 0), .val (.int gq6), .val (.int gq7), .val (.int gq8), .val (.long jam), .second, .val (.long gq11), .second, .val (.ref c0_a), .unset] [(.int 1)])) _
  refine XS.istore X1.here hx rfl (hb hby at_177) rfl (l' := #[.val (.int p0), .val (.int p1), .val (.long p2), .second, .val (.int gq4), .val (.int 0), .val (.int gq6), .val (.int gq7), .val (.int gq8), .val (.long jam), .second, .val (.long gq11), .second, .val (.ref c0_a), .val (.int 1)]) rfl ?_
  show Steps p.tables e below (T1.setTop (mkF m 179 #[.val (.int p0), .val (.int p1), .val (.long p2), .second, .val (.int gq4), .val (.int 0), .val (.int gq6), .val (.int gq7), .val (.int gq8), .val (.long jam), .second, .val (.long gq11), .second, .val (.ref c0_a), .val (.int 1)] [])) _
  exact kt
set_option maxRecDepth 65536 in
set_option maxHeartbeats 40000000 in
theorem rm5_69 (l : Launch) (Z : State) (a0 : Array Value) (hw : ∀ d ∈ tables_1, d.before a0 Z = true) (ws : List Jvm.Cond) (c0_a : Addr) (c1_a : Addr) (c2_k : ClassId) (gx0 : Value) (h0 : Heap) (n0 : Nat) (Z0 : n0 ≤ h0.size) (f1 : F_0 Z h0 c0_a (.ref c1_a)) (f2 : Arv Z h0 c1_a c2_k (.object "java/lang/Long") (2 : Int32) [gx0, .null] .null) :
    MetFree l M_1 (head1 (Jvm.Cond.code M_1 prog_14_method_4_code 2 (some .boolean) :: ws) R_0_0_0_0) (fun a U => a = #[(.ref c0_a), (.int 2)] ∧ Z.Warmed39 U.vm ∧ U.heap = h0) (fun _ _ _ _ _ => True) (fun _ U o U' => ∃ v L, o = .returned v ∧ QP (some (.int 0)) h0 n0 v U'.heap L ∧ FrameEnd U o U' L R_0_0_0_0.cells R_0_0_0_0.slots) := by
  refine MetFree.of_bodySF (plainFor_of_name pn_hexwright_engine_SealedBids) hisR ?_
  intro p e s m args below meth c s₁ Bd hml0 hP hK
  obtain ⟨rfl, hZ, hh⟩ := hP
  have hx := Bd.exec
  have hby := Bd.bytes
  have hml : c.maxLocals = 2 := hml0
  have hown : s.vm.findClass "hexwright/engine/SealedBids" = some m.cls := findClass_of_methodNamed Bd.named
  have hnm := (name_of_methodNamed Bd.named Bd.method).1
  have X0 : Stand p l e R_0_0_0_0 s m #[(.ref c0_a), (.int 2)] below meth c s₁ [] 0 0 := Stand.of_body Bd
  have e0 : s₁.heap = h0 := by rw [← hh, Bd.state]; rfl
  have N0 := Fr.nil n0
  obtain ⟨T1, X1, e1, st1⟩ := getF X0 hx hZ hown (host := "") (Or.inl (tw_12 hw)) Via.refl e0 f1 (g := (mkF m 1 #[.val (.ref c0_a), .val (.int 2)] [(.ref c0_a)])) rfl rfl (hb hby d5_1)
  have va2 := f2
  obtain ⟨cl2, Ar2, -, S2, -, H2, -⟩ := va2
  have hin2 : ¬ ((1 : Int32) < 0 ∨ cl2.slots.size ≤ ((1 : Int32)).toNatClampNeg) := inb_of S2 ⟨by decide, by decide⟩
  have hat2 : cl2.slots[((1 : Int32)).toNatClampNeg]? = some .null := H2 _ (Nat.lt_of_not_le fun y => hin2 (Or.inr y))
  obtain ⟨fs, hr, hrun, hended, hW, hsame⟩ := X1.leave (v := (some (.int 0))) (fun h => by rw [Bd.returns] at h; cases h)
  refine ⟨_, _, castTop (ef5_RI m c0_a (2 : Int32)) ?_, hrun, hended, _, _, rfl, ?_, ⟨_, rfl⟩, hW, hsame.mono (by decide) (by decide)⟩
  · show Steps p.tables e below (s₁.setTop (mkF m 0 #[.val (.ref c0_a), .val (.int 2)] [])) _
    refine XS.aloadN X0.here hx rfl (hb hby d5_0) rfl rfl ?_
    show Steps p.tables e below (s₁.setTop (mkF m 1 #[.val (.ref c0_a), .val (.int 2)] [(.ref c0_a)])) _
    refine st1 _ ?_
    refine XS.iloadN X1.here hx rfl (hb hby d5_4) rfl ?_
    refine XS.iconst X1.here hx rfl (hb hby d5_5) ?_
    show Steps p.tables e below (T1.setTop (mkF m 6 #[.val (.ref c0_a), .val (.int 2)] [(.int 1), (.int 2), (.ref c1_a)])) _
    refine XS.isub X1.here hx rfl (hb hby d5_6) rfl ?_
    show Steps p.tables e below (T1.setTop (mkF m 7 #[.val (.ref c0_a), .val (.int 2)] [(.int ((2 : Int32) - (1 : Int32))), (.ref c1_a)])) _
    rw [show ((2 : Int32) - (1 : Int32)) = (1 : Int32) from by decide]
    show Steps p.tables e below (T1.setTop (mkF m 7 #[.val (.ref c0_a), .val (.int 2)] [(.int 1), (.ref c1_a)])) _
    refine X1.aaload hx (j := (1 : Int32)) (v := .null) (by rw [e1]; exact Ar2.1) (State.isArrayOf_alike hZ.alike Ar2.2.1) rfl Ar2.2.2 hin2 hat2 (g := (mkF m 7 #[.val (.ref c0_a), .val (.int 2)] [(.int 1), (.ref c1_a)])) rfl rfl (hb hby d5_7) _ ?_
    refine XS.ifnullYes X1.here hx rfl (pc0 := 8) (pc' := 15) rfl (hb hby d5_8) rfl (by decide) (by decide) ?_
    refine XS.iconst X1.here hx rfl (hb hby d5_15) ?_
    show Steps p.tables e below (T1.setTop (mkF m 16 #[.val (.ref c0_a), .val (.int 2)] [(.int 0)])) _
    exact retN X1 hx (t := .boolean) Bd.returns (by simp) (hb hby d5_16) hr
  · show QP (some (.int 0)) h0 n0 _ T1.heap _
    rw [e1]
    exact ⟨rfl, N0, rfl⟩
set_option maxRecDepth 65536 in
set_option maxHeartbeats 40000000 in
theorem sg179_70 {p : Program} {l : Launch} {e : Env} {s : State} {m : MethodId} {below : List Frame} {meth : Method} {c : Code} {T0 : State} {locs : List Loc} {Z : State} {a0 : Array Value} (p0 : Int32) (p1 : Int32) (p2 : Int64) (gq5 : Int32) (gq7 : Int32) (gq8 : Int32) (jam : Int64) (gq11 : Int64) (c0_a : Addr) (c1_a : Addr) (c2_k : ClassId) (gx0 : Value) {h0 : Heap} {n0 : Nat} (X0 : Stand p l e room_1 s m #[(.int p0), (.int p1), (.long p2)] below meth c T0 locs 6 7) (hx : p.tables.exec = Jvm.exec) (hZ : Z.Warmed39 s.vm) (hw : ∀ d ∈ tables_1, d.before a0 Z = true) (hby : c.code = code) (hml : c.maxLocals = 15) (hown : s.vm.findClass "hexwright/engine/SealedBidsHasBidPinLaw" = some m.cls) (e0 : T0.heap = h0) (N0 : Fr n0 locs) (Z0 : n0 ≤ h0.size) (f1 : F_0 Z h0 c0_a (.ref c1_a)) (f2 : Arv Z h0 c1_a c2_k (.object "java/lang/Long") (2 : Int32) [gx0, .null] .null) (f3 : E_1 Z h0 c0_a) :
    ∃ (T : State) (L : List Loc), Stand p l e room_1 s m #[(.int p0), (.int p1), (.long p2)] below meth c T L 6 7 ∧ T.heap = h0 ∧ Fr n0 L ∧ (∀ target, Steps p.tables e below (T.setTop (mkF m 208 #[.val (.int p0), .val (.int p1), .val (.long p2), .second, .val (.int 2), .val (.int gq5), .val (.int 0), .val (.int gq7), .val (.int gq8), .val (.long jam), .second, .val (.long gq11), .second, .val (.ref c0_a), .val (.int 1)] [])) target → Steps p.tables e below (T0.setTop (mkF m 179 #[.val (.int p0), .val (.int p1), .val (.long p2), .second, .val (.int 2), .val (.int gq5), .val (.int 0), .val (.int gq7), .val (.int gq8), .val (.long jam), .second, .val (.long gq11), .second, .val (.ref c0_a), .val (.int 1)] [])) target) := by
  -- pc 193: hexwright/engine/SealedBids.hasBid
  obtain ⟨cq1, kq1, q1a, q1b, q1c⟩ := isOf hZ e0 f3
  obtain ⟨_, _, ⟨T1, L1, k1, n1⟩, -, X1, ⟨Lc1, hQ1, l1, y1, z1⟩, st1⟩ := X0.virtualBack hx (y := M_1) (z := M_1) hown (mvT hZ (tw_28 hw)) (mvT hZ (tw_29 hw)) (notFace_of_selects (args := #[]) (mvT hZ (tw_31 hw))) (mvT hZ (tw_31 hw)) (mvT hZ (tw_30 hw)) (by decide) (backOf (W := 0) (rm5_69 l Z a0 hw [] c0_a c1_a c2_k gx0 h0 n0 Z0 f1 f2) hZ (tw_32 hw) (tw_3 hw) (by decide) (by decide)) q1a q1c (g := (mkF m 193 #[.val (.int p0), .val (.int p1), .val (.long p2), .second, .val (.int 2), .val (.int gq5), .val (.int 0), .val (.int gq7), .val (.int gq8), .val (.long jam), .second, .val (.long gq11), .second, .val (.ref c0_a), .val (.int 1)] [(.int 2), (.ref c0_a)])) rfl (by rw [hml]; rfl) (Steps.refl _) (argsL := [(.int 2)]) (rest := []) (lenOf pd_1 rfl) rfl (by show 2 * 0 + _ ≤ _; exact Nat.le_of_eq rfl) (hb hby at_193) (fun _ _ => ⟨rfl, e0, (by decide : 6 + 0 ≤ _), (by decide : 7 + 0 ≤ _)⟩)
  dsimp only [Pt.U, Pt.locs, Pt.cells, Pt.slots] at X1 l1 y1 z1 st1 hQ1
  subst l1 y1 z1
  obtain ⟨rfl, Nq1, e1⟩ := hQ1
  have N1 := Fr.app N0 Nq1
  refine ⟨T1, _, X1, e1, N1, fun target kt => ?_⟩
  show Steps p.tables e below (T0.setTop (mkF m 179 #[.val (.int p0), .val (.int p1), .val (.long p2), .second, .val (.int 2), .val (.int gq5), .val (.int 0), .val (.int gq7), .val (.int gq8), .val (.long jam), .second, .val (.long gq11), .second, .val (.ref c0_a), .val (.int 1)] [])) _
  refine XS.iload X0.here hx rfl (hb hby at_179) rfl ?_
  refine XS.iconst X0.here hx rfl (hb hby at_181) ?_
  refine XS.icmpNo X0.here hx rfl (hb hby at_182) rfl (by decide) ?_
  refine XS.iload X0.here hx rfl (hb hby at_185) rfl ?_
  refine XS.ifNo X0.here hx rfl (hb hby at_187) rfl (by decide) ?_
  show Steps p.tables e below (T0.setTop (mkF m 190 #[.val (.int p0), .val (.int p1), .val (.long p2), .second, .val (.int 2), .val (.int gq5), .val (.int 0), .val (.int gq7), .val (.int gq8), .val (.long jam), .second, .val (.long gq11), .second, .val (.ref c0_a), .val (.int 1)] [])) _
  refine XS.aload X0.here hx rfl (hb hby at_190) rfl rfl ?_
  refine XS.iconst X0.here hx rfl (hb hby at_192) ?_
  show Steps p.tables e below (T0.setTop (mkF m 193 #[.val (.int p0), .val (.int p1), .val (.long p2), .second, .val (.int 2), .val (.int gq5), .val (.int 0), .val (.int gq7), .val (.int gq8), .val (.long jam), .second, .val (.long gq11), .second, .val (.ref c0_a), .val (.int 1)] [(.int 2), (.ref c0_a)])) _
  refine st1.trans ?_
  refine XS.iload X1.here hx rfl (hb hby at_196) rfl ?_
  refine XS.icmpNo X1.here hx rfl (hb hby at_198) rfl (by decide) ?_
  refine XS.iconst X1.here hx rfl (hb hby at_201) ?_
  refine XS.goto X1.here hx rfl (pc0 := 202) (pc' := 206) rfl (hb hby at_202) (by decide) (by decide) ?_
  show Steps p.tables e below (T1.setTop (mkF m 206 #[.val (.int p0), .val (.int p1), .val (.long p2), .second, .val (.int 2), .val (.int gq5), .val (.int 0), .val (.int gq7), .val (.int gq8), .val (.long jam), .second, .val (.long gq11), .second, .val (.ref c0_a), .val (.int 1)] [(.int 1)])) _
  refine XS.istore X1.here hx rfl (hb hby at_206) rfl (l' := #[.val (.int p0), .val (.int p1), .val (.long p2), .second, .val (.int 2), .val (.int gq5), .val (.int 0), .val (.int gq7), .val (.int gq8), .val (.long jam), .second, .val (.long gq11), .second, .val (.ref c0_a), .val (.int 1)]) rfl ?_
  show Steps p.tables e below (T1.setTop (mkF m 208 #[.val (.int p0), .val (.int p1), .val (.long p2), .second, .val (.int 2), .val (.int gq5), .val (.int 0), .val (.int gq7), .val (.int gq8), .val (.long jam), .second, .val (.long gq11), .second, .val (.ref c0_a), .val (.int 1)] [])) _
  exact kt
set_option maxRecDepth 65536 in
set_option maxHeartbeats 40000000 in
theorem sg208_71 {p : Program} {l : Launch} {e : Env} {s : State} {m : MethodId} {below : List Frame} {meth : Method} {c : Code} {T0 : State} {locs : List Loc} {Z : State} {a0 : Array Value} (p0 : Int32) (p1 : Int32) (p2 : Int64) (gq5 : Int32) (gq6 : Int32) (gq8 : Int32) (jam : Int64) (gq11 : Int64) (c0_a : Addr) {h0 : Heap} {n0 : Nat} (X0 : Stand p l e room_1 s m #[(.int p0), (.int p1), (.long p2)] below meth c T0 locs 6 7) (hx : p.tables.exec = Jvm.exec) (hZ : Z.Warmed39 s.vm) (hw : ∀ d ∈ tables_1, d.before a0 Z = true) (hby : c.code = code) (hml : c.maxLocals = 15) (hown : s.vm.findClass "hexwright/engine/SealedBidsHasBidPinLaw" = some m.cls) (e0 : T0.heap = h0) (N0 : Fr n0 locs) (Z0 : n0 ≤ h0.size) :
    ∃ (T : State) (L : List Loc), Stand p l e room_1 s m #[(.int p0), (.int p1), (.long p2)] below meth c T L 6 7 ∧ T.heap = h0 ∧ Fr n0 L ∧ (∀ target, Steps p.tables e below (T.setTop (mkF m 237 #[.val (.int p0), .val (.int p1), .val (.long p2), .second, .val (.int 2), .val (.int gq5), .val (.int gq6), .val (.int 0), .val (.int gq8), .val (.long jam), .second, .val (.long gq11), .second, .val (.ref c0_a), .val (.int 1)] [])) target → Steps p.tables e below (T0.setTop (mkF m 208 #[.val (.int p0), .val (.int p1), .val (.long p2), .second, .val (.int 2), .val (.int gq5), .val (.int gq6), .val (.int 0), .val (.int gq8), .val (.long jam), .second, .val (.long gq11), .second, .val (.ref c0_a), .val (.int 1)] [])) target) := by
  refine ⟨T0, _, X0, e0, N0, fun target kt => ?_⟩
  show Steps p.tables e below (T0.setTop (mkF m 208 #[.val (.int p0), .val (.int p1), .val (.long p2), .second, .val (.int 2), .val (.int gq5), .val (.int gq6), .val (.int 0), .val (.int gq8), .val (.long jam), .second, .val (.long gq11), .second, .val (.ref c0_a), .val (.int 1)] [])) _
  refine XS.iload X0.here hx rfl (hb hby at_208) rfl ?_
  refine XS.iconst X0.here hx rfl (hb hby at_210) ?_
  refine XS.icmpYes X0.here hx rfl (pc0 := 211) (pc' := 237) rfl (hb hby at_211) rfl (by decide) (by decide) (by decide) ?_
  show Steps p.tables e below (T0.setTop (mkF m 237 #[.val (.int p0), .val (.int p1), .val (.long p2), .second, .val (.int 2), .val (.int gq5), .val (.int gq6), .val (.int 0), .val (.int gq8), .val (.long jam), .second, .val (.long gq11), .second, .val (.ref c0_a), .val (.int 1)] [])) _
  exact kt
set_option maxRecDepth 65536 in
set_option maxHeartbeats 40000000 in
theorem sg237_72 {p : Program} {l : Launch} {e : Env} {s : State} {m : MethodId} {below : List Frame} {meth : Method} {c : Code} {T0 : State} {locs : List Loc} {Z : State} {a0 : Array Value} (p0 : Int32) (p1 : Int32) (p2 : Int64) (gq5 : Int32) (gq6 : Int32) (gq7 : Int32) (jam : Int64) (gq11 : Int64) (c0_a : Addr) {h0 : Heap} {n0 : Nat} (X0 : Stand p l e room_1 s m #[(.int p0), (.int p1), (.long p2)] below meth c T0 locs 6 7) (hx : p.tables.exec = Jvm.exec) (hZ : Z.Warmed39 s.vm) (hw : ∀ d ∈ tables_1, d.before a0 Z = true) (hby : c.code = code) (hml : c.maxLocals = 15) (hown : s.vm.findClass "hexwright/engine/SealedBidsHasBidPinLaw" = some m.cls) (e0 : T0.heap = h0) (N0 : Fr n0 locs) (Z0 : n0 ≤ h0.size) :
    ∃ (T : State) (L : List Loc), Stand p l e room_1 s m #[(.int p0), (.int p1), (.long p2)] below meth c T L 6 7 ∧ T.heap = h0 ∧ Fr n0 L ∧ (∀ target, Steps p.tables e below (T.setTop (mkF m 266 #[.val (.int p0), .val (.int p1), .val (.long p2), .second, .val (.int 2), .val (.int gq5), .val (.int gq6), .val (.int gq7), .val (.int 0), .val (.long jam), .second, .val (.long gq11), .second, .val (.ref c0_a), .val (.int 1)] [])) target → Steps p.tables e below (T0.setTop (mkF m 237 #[.val (.int p0), .val (.int p1), .val (.long p2), .second, .val (.int 2), .val (.int gq5), .val (.int gq6), .val (.int gq7), .val (.int 0), .val (.long jam), .second, .val (.long gq11), .second, .val (.ref c0_a), .val (.int 1)] [])) target) := by
  refine ⟨T0, _, X0, e0, N0, fun target kt => ?_⟩
  show Steps p.tables e below (T0.setTop (mkF m 237 #[.val (.int p0), .val (.int p1), .val (.long p2), .second, .val (.int 2), .val (.int gq5), .val (.int gq6), .val (.int gq7), .val (.int 0), .val (.long jam), .second, .val (.long gq11), .second, .val (.ref c0_a), .val (.int 1)] [])) _
  refine XS.iload X0.here hx rfl (hb hby at_237) rfl ?_
  refine XS.iconst X0.here hx rfl (hb hby at_239) ?_
  refine XS.icmpYes X0.here hx rfl (pc0 := 240) (pc' := 266) rfl (hb hby at_240) rfl (by decide) (by decide) (by decide) ?_
  show Steps p.tables e below (T0.setTop (mkF m 266 #[.val (.int p0), .val (.int p1), .val (.long p2), .second, .val (.int 2), .val (.int gq5), .val (.int gq6), .val (.int gq7), .val (.int 0), .val (.long jam), .second, .val (.long gq11), .second, .val (.ref c0_a), .val (.int 1)] [])) _
  exact kt
set_option maxRecDepth 65536 in
set_option maxHeartbeats 40000000 in
theorem rm0_73 (l : Launch) (Z : State) (a0 : Array Value) (hw : ∀ d ∈ tables_1, d.before a0 Z = true) (ws : List Jvm.Cond) (p0 : Int32) (p1 : Int32) (p2 : Int64) (jam : Int64) (h0 : Heap) (n0 : Nat) (Z0 : n0 ≤ h0.size) (f1 : (p0 &&& (3 : Int32)) = (1 : Int32)) (f2 : (p1 &&& (1 : Int32)) = (0 : Int32)) (f3 : (p1 &&& (2 : Int32)) = (0 : Int32)) (f4 : (p2 &&& (9223372036854775807 : Int64)) = jam) :
    MetFree l x (head1 (Jvm.Cond.code x code maxLocals ret :: ws) room_1) (fun a U => a = #[(.int p0), (.int p1), (.long p2)] ∧ Z.Warmed39 U.vm ∧ U.heap = h0) (fun _ _ _ _ _ => True) (fun _ U o U' => ∃ v L, o = .returned v ∧ QT n0 v U'.heap L ∧ FrameEnd U o U' L room_1.cells room_1.slots) := by
  refine MetFree.of_bodySF (plainFor_of_name pn_hexwright_engine_SealedBidsHasBidPinLaw) hisR ?_
  intro p e s m args below meth c s₁ Bd hml0 hP hK
  obtain ⟨rfl, hZ, hh⟩ := hP
  have hx := Bd.exec
  have hby := Bd.bytes
  have hml : c.maxLocals = 15 := hml0
  have hown : s.vm.findClass "hexwright/engine/SealedBidsHasBidPinLaw" = some m.cls := findClass_of_methodNamed Bd.named
  have hnm := (name_of_methodNamed Bd.named Bd.method).1
  have X0 : Stand p l e room_1 s m #[(.int p0), (.int p1), (.long p2)] below meth c s₁ [] 0 0 := Stand.of_body Bd
  have e0 : s₁.heap = h0 := by rw [← hh, Bd.state]; rfl
  have N0 := Fr.nil n0
  obtain ⟨T1, L1, X1, e1, N1, st1⟩ := sg7_1 p0 p1 p2 (2 : Int32) X0 hx hZ hw hby hml hown e0 N0 Z0 f2
  obtain ⟨T2, L2, X2, e2, N2, st2⟩ := sg20_49 p0 p1 p2 (0 : Int32) X1 hx hZ hw hby hml hown e1 N1 Z0 f3
  obtain ⟨T3, L3, X3, e3, N3, st3⟩ := sg39_50 p0 p1 p2 (0 : Int32) (0 : Int32) X2 hx hZ hw hby hml hown e2 N2 Z0 
  obtain ⟨T4, L4, X4, e4, N4, st4⟩ := sg58_51 p0 p1 p2 (0 : Int32) (0 : Int32) (0 : Int32) X3 hx hZ hw hby hml hown e3 N3 Z0 
  obtain ⟨T5, L5, X5, e5, N5, st5⟩ := sg78_5 p0 p1 p2 (2 : Int32) (0 : Int32) (0 : Int32) (0 : Int32) (0 : Int32) jam X4 hx hZ hw hby hml hown e4 N4 Z0 f4
  obtain ⟨T6, h6, L6, b60, b61, kc62, X6, e6, N6, K6, le_b60, le_b61, o6_0, o6_1, o6_2, o6_3, o6_4, st6⟩ := sg90_59 p0 p1 p2 (0 : Int32) (0 : Int32) (0 : Int32) (0 : Int32) jam (9223372036854775807 : Int64) X5 hx hZ hw hby hml hown e5 N5 Z0 
  have sz_b60 : h0.size ≤ b60 := Nat.le_trans (Nat.le_refl _) le_b60
  have g_b60 : n0 ≤ b60 := Nat.le_trans Z0 sz_b60
  have sz_b61 : h0.size ≤ b61 := Nat.le_trans (Nat.le_refl _) le_b61
  have g_b61 : n0 ≤ b61 := Nat.le_trans Z0 sz_b61
  have KK6 : Keep h0 h6 [] := (Keep.refl h0 []).trans K6 (fun x hx => nomatch hx)
  obtain ⟨T7, L7, X7, e7, N7, st7⟩ := sg101_63 p0 p1 p2 (2 : Int32) (0 : Int32) (0 : Int32) (0 : Int32) jam b60 X6 hx hZ hw hby hml hown e6 N6 (Nat.le_trans Z0 KK6.1) 
  obtain ⟨T8, L8, X8, e8, N8, st8⟩ := sg116_64 p0 p1 p2 (2 : Int32) (0 : Int32) (0 : Int32) (0 : Int32) jam b60 X7 hx hZ hw hby hml hown e7 N7 (Nat.le_trans Z0 KK6.1) 
  obtain ⟨T9, L9, X9, e9, N9, st9⟩ := sg131_65 p0 p1 p2 (2 : Int32) (0 : Int32) (0 : Int32) (0 : Int32) jam b60 X8 hx hZ hw hby hml hown e8 N8 (Nat.le_trans Z0 KK6.1) 
  obtain ⟨T10, L10, X10, e10, N10, st10⟩ := sg146_66 p0 p1 p2 (2 : Int32) (0 : Int32) (0 : Int32) (0 : Int32) jam b60 X9 hx hZ hw hby hml hown e9 N9 (Nat.le_trans Z0 KK6.1) 
  obtain ⟨T11, L11, X11, e11, N11, st11⟩ := sg161_68 p0 p1 p2 (2 : Int32) (0 : Int32) (0 : Int32) (0 : Int32) jam (9223372036854775807 : Int64) b60 b61 kc62 .null X10 hx hZ hw hby hml hown e10 N10 (Nat.le_trans Z0 KK6.1) o6_1 o6_2 o6_0
  obtain ⟨T12, L12, X12, e12, N12, st12⟩ := sg179_70 p0 p1 p2 (0 : Int32) (0 : Int32) (0 : Int32) jam (9223372036854775807 : Int64) b60 b61 kc62 .null X11 hx hZ hw hby hml hown e11 N11 (Nat.le_trans Z0 KK6.1) o6_1 o6_2 o6_0
  obtain ⟨T13, L13, X13, e13, N13, st13⟩ := sg208_71 p0 p1 p2 (0 : Int32) (0 : Int32) (0 : Int32) jam (9223372036854775807 : Int64) b60 X12 hx hZ hw hby hml hown e12 N12 (Nat.le_trans Z0 KK6.1) 
  obtain ⟨T14, L14, X14, e14, N14, st14⟩ := sg237_72 p0 p1 p2 (0 : Int32) (0 : Int32) (0 : Int32) jam (9223372036854775807 : Int64) b60 X13 hx hZ hw hby hml hown e13 N13 (Nat.le_trans Z0 KK6.1) 
  obtain ⟨fs, hr, hrun, hended, hW, hsame⟩ := X14.leave (v := (some (.int 1))) (fun h => by rw [Bd.returns] at h; cases h)
  refine ⟨_, _, castTop (ef0_IIJ m p0 p1 p2) ?_, hrun, hended, _, _, rfl, ?_, ⟨_, rfl⟩, hW, hsame.mono (by decide) (by decide)⟩
  · show Steps p.tables e below (s₁.setTop (mkF m 0 #[.val (.int p0), .val (.int p1), .val (.long p2), .second, .unset, .unset, .unset, .unset, .unset, .unset, .unset, .unset, .unset, .unset, .unset] [])) _
    refine XS.iloadN X0.here hx rfl (hb hby at_0) rfl ?_
    refine XS.iconst X0.here hx rfl (hb hby at_1) ?_
    show Steps p.tables e below (s₁.setTop (mkF m 2 #[.val (.int p0), .val (.int p1), .val (.long p2), .second, .unset, .unset, .unset, .unset, .unset, .unset, .unset, .unset, .unset, .unset, .unset] [(.int 3), (.int p0)])) _
    refine XS.iand X0.here hx rfl (hb hby at_2) rfl ?_
    show Steps p.tables e below (s₁.setTop (mkF m 3 #[.val (.int p0), .val (.int p1), .val (.long p2), .second, .unset, .unset, .unset, .unset, .unset, .unset, .unset, .unset, .unset, .unset, .unset] [(.int (p0 &&& (3 : Int32)))])) _
    rw [f1]
    refine XS.iconst X0.here hx rfl (hb hby at_3) ?_
    show Steps p.tables e below (s₁.setTop (mkF m 4 #[.val (.int p0), .val (.int p1), .val (.long p2), .second, .unset, .unset, .unset, .unset, .unset, .unset, .unset, .unset, .unset, .unset, .unset] [(.int 1), (.int 1)])) _
    refine XS.iadd X0.here hx rfl (hb hby at_4) rfl ?_
    show Steps p.tables e below (s₁.setTop (mkF m 5 #[.val (.int p0), .val (.int p1), .val (.long p2), .second, .unset, .unset, .unset, .unset, .unset, .unset, .unset, .unset, .unset, .unset, .unset] [(.int ((1 : Int32) + (1 : Int32)))])) _
    rw [show ((1 : Int32) + (1 : Int32)) = (2 : Int32) from by decide]
    refine XS.istore X0.here hx rfl (hb hby at_5) rfl (l' := #[.val (.int p0), .val (.int p1), .val (.long p2), .second, .val (.int 2), .unset, .unset, .unset, .unset, .unset, .unset, .unset, .unset, .unset, .unset]) rfl ?_
    show Steps p.tables e below (s₁.setTop (mkF m 7 #[.val (.int p0), .val (.int p1), .val (.long p2), .second, .val (.int 2), .unset, .unset, .unset, .unset, .unset, .unset, .unset, .unset, .unset, .unset] [])) _
    refine st1 _ ?_
    show Steps p.tables e below (T1.setTop (mkF m 20 #[.val (.int p0), .val (.int p1), .val (.long p2), .second, .val (.int 2), .val (.int 0), .unset, .unset, .unset, .unset, .unset, .unset, .unset, .unset, .unset] [])) _
    refine st2 _ ?_
    show Steps p.tables e below (T2.setTop (mkF m 39 #[.val (.int p0), .val (.int p1), .val (.long p2), .second, .val (.int 2), .val (.int 0), .val (.int 0), .unset, .unset, .unset, .unset, .unset, .unset, .unset, .unset] [])) _
    refine st3 _ ?_
    show Steps p.tables e below (T3.setTop (mkF m 58 #[.val (.int p0), .val (.int p1), .val (.long p2), .second, .val (.int 2), .val (.int 0), .val (.int 0), .val (.int 0), .unset, .unset, .unset, .unset, .unset, .unset, .unset] [])) _
    refine st4 _ ?_
    show Steps p.tables e below (T4.setTop (mkF m 78 #[.val (.int p0), .val (.int p1), .val (.long p2), .second, .val (.int 2), .val (.int 0), .val (.int 0), .val (.int 0), .val (.int 0), .unset, .unset, .unset, .unset, .unset, .unset] [])) _
    refine st5 _ ?_
    show Steps p.tables e below (T5.setTop (mkF m 90 #[.val (.int p0), .val (.int p1), .val (.long p2), .second, .val (.int 2), .val (.int 0), .val (.int 0), .val (.int 0), .val (.int 0), .val (.long jam), .second, .val (.long 9223372036854775807), .second, .unset, .unset] [])) _
    refine st6 _ ?_
    show Steps p.tables e below (T6.setTop (mkF m 101 #[.val (.int p0), .val (.int p1), .val (.long p2), .second, .val (.int 2), .val (.int 0), .val (.int 0), .val (.int 0), .val (.int 0), .val (.long jam), .second, .val (.long 9223372036854775807), .second, .val (.ref b60), .unset] [])) _
    refine st7 _ ?_
    show Steps p.tables e below (T7.setTop (mkF m 116 #[.val (.int p0), .val (.int p1), .val (.long p2), .second, .val (.int 2), .val (.int 0), .val (.int 0), .val (.int 0), .val (.int 0), .val (.long jam), .second, .val (.long 9223372036854775807), .second, .val (.ref b60), .unset] [])) _
    refine st8 _ ?_
    show Steps p.tables e below (T8.setTop (mkF m 131 #[.val (.int p0), .val (.int p1), .val (.long p2), .second, .val (.int 2), .val (.int 0), .val (.int 0), .val (.int 0), .val (.int 0), .val (.long jam), .second, .val (.long 9223372036854775807), .second, .val (.ref b60), .unset] [])) _
    refine st9 _ ?_
    show Steps p.tables e below (T9.setTop (mkF m 146 #[.val (.int p0), .val (.int p1), .val (.long p2), .second, .val (.int 2), .val (.int 0), .val (.int 0), .val (.int 0), .val (.int 0), .val (.long jam), .second, .val (.long 9223372036854775807), .second, .val (.ref b60), .unset] [])) _
    refine st10 _ ?_
    show Steps p.tables e below (T10.setTop (mkF m 161 #[.val (.int p0), .val (.int p1), .val (.long p2), .second, .val (.int 2), .val (.int 0), .val (.int 0), .val (.int 0), .val (.int 0), .val (.long jam), .second, .val (.long 9223372036854775807), .second, .val (.ref b60), .unset] [])) _
    refine st11 _ ?_
    show Steps p.tables e below (T11.setTop (mkF m 179 #[.val (.int p0), .val (.int p1), .val (.long p2), .second, .val (.int 2), .val (.int 0), .val (.int 0), .val (.int 0), .val (.int 0), .val (.long jam), .second, .val (.long 9223372036854775807), .second, .val (.ref b60), .val (.int 1)] [])) _
    refine st12 _ ?_
    show Steps p.tables e below (T12.setTop (mkF m 208 #[.val (.int p0), .val (.int p1), .val (.long p2), .second, .val (.int 2), .val (.int 0), .val (.int 0), .val (.int 0), .val (.int 0), .val (.long jam), .second, .val (.long 9223372036854775807), .second, .val (.ref b60), .val (.int 1)] [])) _
    refine st13 _ ?_
    show Steps p.tables e below (T13.setTop (mkF m 237 #[.val (.int p0), .val (.int p1), .val (.long p2), .second, .val (.int 2), .val (.int 0), .val (.int 0), .val (.int 0), .val (.int 0), .val (.long jam), .second, .val (.long 9223372036854775807), .second, .val (.ref b60), .val (.int 1)] [])) _
    refine st14 _ ?_
    refine XS.iload X14.here hx rfl (hb hby at_266) rfl ?_
    show Steps p.tables e below (T14.setTop (mkF m 268 #[.val (.int p0), .val (.int p1), .val (.long p2), .second, .val (.int 2), .val (.int 0), .val (.int 0), .val (.int 0), .val (.int 0), .val (.long jam), .second, .val (.long 9223372036854775807), .second, .val (.ref b60), .val (.int 1)] [(.int 1)])) _
    exact retN X14 hx (t := .boolean) Bd.returns (by simp) (hb hby at_268) hr
  · show QT n0 _ T14.heap _
    rw [e14]
    exact ⟨rfl, N14⟩
set_option maxRecDepth 65536 in
set_option maxHeartbeats 40000000 in
theorem sg20_74 {p : Program} {l : Launch} {e : Env} {s : State} {m : MethodId} {below : List Frame} {meth : Method} {c : Code} {T0 : State} {locs : List Loc} {Z : State} {a0 : Array Value} (p0 : Int32) (p1 : Int32) (p2 : Int64) (gq5 : Int32) {h0 : Heap} {n0 : Nat} (X0 : Stand p l e room_1 s m #[(.int p0), (.int p1), (.long p2)] below meth c T0 locs 0 0) (hx : p.tables.exec = Jvm.exec) (hZ : Z.Warmed39 s.vm) (hw : ∀ d ∈ tables_1, d.before a0 Z = true) (hby : c.code = code) (hml : c.maxLocals = 15) (hown : s.vm.findClass "hexwright/engine/SealedBidsHasBidPinLaw" = some m.cls) (e0 : T0.heap = h0) (N0 : Fr n0 locs) (Z0 : n0 ≤ h0.size) (f1 : ¬ ((p1 &&& (2 : Int32)) = (0 : Int32))) :
    ∃ (T : State) (L : List Loc), Stand p l e room_1 s m #[(.int p0), (.int p1), (.long p2)] below meth c T L 0 0 ∧ T.heap = h0 ∧ Fr n0 L ∧ (∀ target, Steps p.tables e below (T.setTop (mkF m 39 #[.val (.int p0), .val (.int p1), .val (.long p2), .second, .val (.int 2), .val (.int gq5), .val (.int 1), .unset, .unset, .unset, .unset, .unset, .unset, .unset, .unset] [])) target → Steps p.tables e below (T0.setTop (mkF m 20 #[.val (.int p0), .val (.int p1), .val (.long p2), .second, .val (.int 2), .val (.int gq5), .unset, .unset, .unset, .unset, .unset, .unset, .unset, .unset, .unset] [])) target) := by
  refine ⟨T0, _, X0, e0, N0, fun target kt => ?_⟩
  show Steps p.tables e below (T0.setTop (mkF m 20 #[.val (.int p0), .val (.int p1), .val (.long p2), .second, .val (.int 2), .val (.int gq5), .unset, .unset, .unset, .unset, .unset, .unset, .unset, .unset, .unset] [])) _
  refine XS.iload X0.here hx rfl (hb hby at_20) rfl ?_
  refine XS.iconst X0.here hx rfl (hb hby at_22) ?_
  refine XS.icmpNo X0.here hx rfl (hb hby at_23) rfl (by decide) ?_
  refine XS.iloadN X0.here hx rfl (hb hby at_26) rfl ?_
  refine XS.iconst X0.here hx rfl (hb hby at_27) ?_
  show Steps p.tables e below (T0.setTop (mkF m 28 #[.val (.int p0), .val (.int p1), .val (.long p2), .second, .val (.int 2), .val (.int gq5), .unset, .unset, .unset, .unset, .unset, .unset, .unset, .unset, .unset] [(.int 2), (.int p1)])) _
  refine XS.iand X0.here hx rfl (hb hby at_28) rfl ?_
  refine XS.ifNo X0.here hx rfl (hb hby at_29) rfl ((if0 _ _).trans (feq (f1 : ¬ ((p1 &&& (2 : Int32)) = (0 : Int32)))).1) ?_
  refine XS.iconst X0.here hx rfl (hb hby at_32) ?_
  refine XS.goto X0.here hx rfl (pc0 := 33) (pc' := 37) rfl (hb hby at_33) (by decide) (by decide) ?_
  refine XS.istore X0.here hx rfl (hb hby at_37) rfl (l' := #[.val (.int p0), .val (.int p1), .val (.long p2), .second, .val (.int 2), .val (.int gq5), .val (.int 1), .unset, .unset, .unset, .unset, .unset, .unset, .unset, .unset]) rfl ?_
  show Steps p.tables e below (T0.setTop (mkF m 39 #[.val (.int p0), .val (.int p1), .val (.long p2), .second, .val (.int 2), .val (.int gq5), .val (.int 1), .unset, .unset, .unset, .unset, .unset, .unset, .unset, .unset] [])) _
  exact kt
def Q3_80 (Z : State) (c1_a : Addr) (c2_k : ClassId) (gx0 : Value) (h0 : Heap) (n0 : Nat) (v : Option Value) (h : Heap) (L : List Loc) : Prop := ∃ (bx78 : Addr), v = none ∧ Fr n0 L ∧ Keep h0 h [c1_a] ∧ Arv Z h c1_a c2_k (.object "java/lang/Long") (2 : Int32) [gx0, (.ref bx78)] .null
set_option maxRecDepth 65536 in
set_option maxHeartbeats 40000000 in
theorem rm3_79 (l : Launch) (Z : State) (a0 : Array Value) (hw : ∀ d ∈ tables_1, d.before a0 Z = true) (ws : List Jvm.Cond) (c0_a : Addr) (jam : Int64) (c1_a : Addr) (c2_k : ClassId) (gx0 : Value) (a_cache : Addr) (h0 : Heap) (n0 : Nat) (Z0 : n0 ≤ h0.size) (f1 : F_0 Z h0 c0_a (.ref c1_a)) (f2 : Arv Z h0 c1_a c2_k (.object "java/lang/Long") (2 : Int32) [gx0, .null] .null) (f3 : ¬ ((lcmpW jam (0 : Int64)) < (0 : Int32))) (f4 : ¬ ((0 : Int32) < (lcmpW jam (9223372036854775807 : Int64)))) (f5 : ¬ ((lcmpW jam (-128 : Int64)) < (0 : Int32))) (f6 : S_0 Z h0 (.ref a_cache)) (f7 : OwnAll Z h0 a_cache "java/lang/Long") (f8 : n0 ≤ c1_a) (f9 : Ovr Z c2_k "java/lang/Long") :
    MetFree l M_5 (head1 (Jvm.Cond.code M_5 prog_14_method_2_code 6 none :: ws) R_4_1_1_55) (fun a U => a = #[(.ref c0_a), (.int 2), (.long jam), (.long 9223372036854775807)] ∧ Z.Warmed39 U.vm ∧ U.heap = h0) (fun _ _ _ _ _ => True) (fun _ U o U' => ∃ v L, o = .returned v ∧ Q3_80 Z c1_a c2_k gx0 h0 n0 v U'.heap L ∧ FrameEnd U o U' L R_4_1_1_55.cells R_4_1_1_55.slots) := by
  refine MetFree.of_bodySF (plainFor_of_name pn_hexwright_engine_SealedBids) hisR ?_
  intro p e s m args below meth c s₁ Bd hml0 hP hK
  obtain ⟨rfl, hZ, hh⟩ := hP
  have hx := Bd.exec
  have hby := Bd.bytes
  have hml : c.maxLocals = 6 := hml0
  have hown : s.vm.findClass "hexwright/engine/SealedBids" = some m.cls := findClass_of_methodNamed Bd.named
  have hnm := (name_of_methodNamed Bd.named Bd.method).1
  have X0 : Stand p l e R_4_1_1_55 s m #[(.ref c0_a), (.int 2), (.long jam), (.long 9223372036854775807)] below meth c s₁ [] 0 0 := Stand.of_body Bd
  have e0 : s₁.heap = h0 := by rw [← hh, Bd.state]; rfl
  have N0 := Fr.nil n0
  obtain ⟨T1, X1, e1, st1⟩ := getF X0 hx hZ hown (host := "") (Or.inl (tw_12 hw)) Via.refl e0 f1 (g := (mkF m 1 #[.val (.ref c0_a), .val (.int 2), .val (.long jam), .second, .val (.long 9223372036854775807), .second] [(.ref c0_a)])) rfl rfl (hb hby d3_1)
  have va2 := f2
  obtain ⟨cl2, Ar2, -, S2, -, H2, -⟩ := va2
  have hin2 : ¬ ((1 : Int32) < 0 ∨ cl2.slots.size ≤ ((1 : Int32)).toNatClampNeg) := inb_of S2 ⟨by decide, by decide⟩
  have hat2 : cl2.slots[((1 : Int32)).toNatClampNeg]? = some .null := H2 _ (Nat.lt_of_not_le fun y => hin2 (Or.inr y))
  obtain ⟨T3, X3, e3, st3⟩ := getF X1 hx hZ hown (host := "") (Or.inl (tw_12 hw)) Via.refl e1 f1 (g := (mkF m 56 #[.val (.ref c0_a), .val (.int 2), .val (.long jam), .second, .val (.long 9223372036854775807), .second] [(.ref c0_a)])) rfl rfl (hb hby d3_56)
  -- pc 63: java/lang/Long.valueOf
  obtain ⟨_, _, ⟨T4, L4, k4, n4⟩, -, X4, ⟨Lc4, hQ4, l4, y4, z4⟩, st4⟩ := Jvm.LawKit.callS X3 hx (y := M_4) hown (mvT hZ (tw_19 hw)) (mvT hZ (tw_20 hw)) (mvT hZ (tw_21 hw)) (mvT hZ (tw_22 hw)) (by decide) (backOf (W := 2) (rmB_38 l Z a0 hw [] jam a_cache h0 n0 Z0 f5 f6 f7) hZ (tw_22 hw) (tw_21 hw) (by decide) (by decide)) (g := (mkF m 63 #[.val (.ref c0_a), .val (.int 2), .val (.long jam), .second, .val (.long 9223372036854775807), .second] [(.long jam), (.int 1), (.ref c1_a)])) rfl (by rw [hml]; rfl) (argsL := [(.long jam)]) (rest := [(.int 1), (.ref c1_a)]) (lenOf pd_4 rfl) rfl (by show 2 * 0 + _ ≤ _; exact Nat.le_of_eq rfl) (hb hby d3_63) (fun _ _ => ⟨rfl, e3, (by decide : 0 + 1 ≤ _), (by decide : 0 + 1 ≤ _)⟩)
  dsimp only [Pt.U, Pt.locs, Pt.cells, Pt.slots] at X4 l4 y4 z4 st4 hQ4
  subst l4 y4 z4
  obtain ⟨bx78, rfl, Nq4, K4, o4_0⟩ := hQ4
  have N4 := Fr.app N0 Nq4
  have KK4 : Keep h0 T4.heap [c1_a] := (Keep.refl h0 [c1_a]).trans K4 (fun x hx => nomatch hx)
  have u5 : Arv Z T4.heap c1_a c2_k (.object "java/lang/Long") (2 : Int32) [gx0, .null] .null := Arv.keep f2 K4 List.not_mem_nil
  have va6 := u5
  obtain ⟨cl6, Ar6, q6, S6, N6_, H6, G6⟩ := va6
  have hin6 : ¬ ((1 : Int32) < 0 ∨ cl6.slots.size ≤ ((1 : Int32)).toNatClampNeg) := inb_of S6 ⟨by decide, by decide⟩
  obtain ⟨T7, h7, X7, e7, W7, st7⟩ := stR X4 hx hZ rfl Ar6 (j := (1 : Int32)) hin6 rfl (Sto.ofV Ar6 q6 f9 (Ins.self o4_0)) (g := (mkF m 66 #[.val (.ref c0_a), .val (.int 2), .val (.long jam), .second, .val (.long 9223372036854775807), .second] [(.ref bx78), (.int 1), (.ref c1_a)])) rfl rfl (hb hby d3_66)
  have Vw7 : Arv Z h7 c1_a c2_k (.object "java/lang/Long") (2 : Int32) [gx0, (.ref bx78)] .null := Arv.set Ar6 q6 S6 N6_ H6 G6 rfl W7 1 rfl (Nat.le_of_ble_eq_true rfl)
  have KK7 : Keep h0 h7 [c1_a] := KK4.wr W7 (Or.inl (List.mem_of_getElem? (i := 0) rfl))
  have N7 := Fr.snoc X7 N4 f8
  obtain ⟨fs, hr, hrun, hended, hW, hsame⟩ := X7.leave (v := none) (fun _ => rfl)
  refine ⟨_, _, castTop (ef3_RIJJ m c0_a (2 : Int32) jam (9223372036854775807 : Int64)) ?_, hrun, hended, _, _, rfl, ?_, ⟨_, rfl⟩, hW, hsame.mono (by decide) (by decide)⟩
  · show Steps p.tables e below (s₁.setTop (mkF m 0 #[.val (.ref c0_a), .val (.int 2), .val (.long jam), .second, .val (.long 9223372036854775807), .second] [])) _
    refine XS.aloadN X0.here hx rfl (hb hby d3_0) rfl rfl ?_
    show Steps p.tables e below (s₁.setTop (mkF m 1 #[.val (.ref c0_a), .val (.int 2), .val (.long jam), .second, .val (.long 9223372036854775807), .second] [(.ref c0_a)])) _
    refine st1 _ ?_
    refine XS.iloadN X1.here hx rfl (hb hby d3_4) rfl ?_
    refine XS.iconst X1.here hx rfl (hb hby d3_5) ?_
    show Steps p.tables e below (T1.setTop (mkF m 6 #[.val (.ref c0_a), .val (.int 2), .val (.long jam), .second, .val (.long 9223372036854775807), .second] [(.int 1), (.int 2), (.ref c1_a)])) _
    refine XS.isub X1.here hx rfl (hb hby d3_6) rfl ?_
    show Steps p.tables e below (T1.setTop (mkF m 7 #[.val (.ref c0_a), .val (.int 2), .val (.long jam), .second, .val (.long 9223372036854775807), .second] [(.int ((2 : Int32) - (1 : Int32))), (.ref c1_a)])) _
    rw [show ((2 : Int32) - (1 : Int32)) = (1 : Int32) from by decide]
    show Steps p.tables e below (T1.setTop (mkF m 7 #[.val (.ref c0_a), .val (.int 2), .val (.long jam), .second, .val (.long 9223372036854775807), .second] [(.int 1), (.ref c1_a)])) _
    refine X1.aaload hx (j := (1 : Int32)) (v := .null) (by rw [e1]; exact Ar2.1) (State.isArrayOf_alike hZ.alike Ar2.2.1) rfl Ar2.2.2 hin2 hat2 (g := (mkF m 7 #[.val (.ref c0_a), .val (.int 2), .val (.long jam), .second, .val (.long 9223372036854775807), .second] [(.int 1), (.ref c1_a)])) rfl rfl (hb hby d3_7) _ ?_
    refine XS.ifnullYes X1.here hx rfl (pc0 := 8) (pc' := 25) rfl (hb hby d3_8) rfl (by decide) (by decide) ?_
    refine XS.lloadN X1.here hx rfl (hb hby d3_25) rfl ?_
    refine XS.lconst X1.here hx rfl (hb hby d3_26) ?_
    show Steps p.tables e below (T1.setTop (mkF m 27 #[.val (.ref c0_a), .val (.int 2), .val (.long jam), .second, .val (.long 9223372036854775807), .second] [(.long 0), (.long jam)])) _
    refine XS.lcmp X1.here hx rfl (hb hby d3_27) rfl ?_
    refine XS.ifNo X1.here hx rfl (hb hby d3_28) rfl ((if0 _ _).trans (flt (f3 : ¬ ((lcmpW jam (0 : Int64)) < (0 : Int32)))).1) ?_
    refine XS.lloadN X1.here hx rfl (hb hby d3_31) rfl ?_
    refine XS.lload X1.here hx rfl (hb hby d3_32) rfl ?_
    show Steps p.tables e below (T1.setTop (mkF m 34 #[.val (.ref c0_a), .val (.int 2), .val (.long jam), .second, .val (.long 9223372036854775807), .second] [(.long 9223372036854775807), (.long jam)])) _
    refine XS.lcmp X1.here hx rfl (hb hby d3_34) rfl ?_
    refine XS.ifYes X1.here hx rfl (pc0 := 35) (pc' := 55) rfl (hb hby d3_35) rfl ((if0 _ _).trans (flt (f4 : ¬ ((0 : Int32) < (lcmpW jam (9223372036854775807 : Int64))))).2.2.2) (by decide) (by decide) ?_
    refine XS.aloadN X1.here hx rfl (hb hby d3_55) rfl rfl ?_
    show Steps p.tables e below (T1.setTop (mkF m 56 #[.val (.ref c0_a), .val (.int 2), .val (.long jam), .second, .val (.long 9223372036854775807), .second] [(.ref c0_a)])) _
    refine st3 _ ?_
    refine XS.iloadN X3.here hx rfl (hb hby d3_59) rfl ?_
    refine XS.iconst X3.here hx rfl (hb hby d3_60) ?_
    show Steps p.tables e below (T3.setTop (mkF m 61 #[.val (.ref c0_a), .val (.int 2), .val (.long jam), .second, .val (.long 9223372036854775807), .second] [(.int 1), (.int 2), (.ref c1_a)])) _
    refine XS.isub X3.here hx rfl (hb hby d3_61) rfl ?_
    show Steps p.tables e below (T3.setTop (mkF m 62 #[.val (.ref c0_a), .val (.int 2), .val (.long jam), .second, .val (.long 9223372036854775807), .second] [(.int ((2 : Int32) - (1 : Int32))), (.ref c1_a)])) _
    rw [show ((2 : Int32) - (1 : Int32)) = (1 : Int32) from by decide]
    refine XS.lloadN X3.here hx rfl (hb hby d3_62) rfl ?_
    show Steps p.tables e below (T3.setTop (mkF m 63 #[.val (.ref c0_a), .val (.int 2), .val (.long jam), .second, .val (.long 9223372036854775807), .second] [(.long jam), (.int 1), (.ref c1_a)])) _
    refine st4 _ ?_
    show Steps p.tables e below (T4.setTop (mkF m 66 #[.val (.ref c0_a), .val (.int 2), .val (.long jam), .second, .val (.long 9223372036854775807), .second] [(.ref bx78), (.int 1), (.ref c1_a)])) _
    refine st7 _ ?_
    show Steps p.tables e below (T7.setTop (mkF m 67 #[.val (.ref c0_a), .val (.int 2), .val (.long jam), .second, .val (.long 9223372036854775807), .second] [])) _
    exact X7.returnOut hx Bd.returns (hb hby d3_67) hr
  · show Q3_80 Z c1_a c2_k gx0 h0 n0 _ T7.heap _
    rw [e7]
    exact ⟨bx78, rfl, N7, KK7, Vw7⟩
set_option maxRecDepth 65536 in
set_option maxHeartbeats 40000000 in
theorem sg116_82 {p : Program} {l : Launch} {e : Env} {s : State} {m : MethodId} {below : List Frame} {meth : Method} {c : Code} {T0 : State} {locs : List Loc} {Z : State} {a0 : Array Value} (p0 : Int32) (p1 : Int32) (p2 : Int64) (gq4 : Int32) (gq5 : Int32) (gq7 : Int32) (gq8 : Int32) (jam : Int64) (c0_a : Addr) (c1_a : Addr) (c2_k : ClassId) (gx0 : Value) (a_cache : Addr) {h0 : Heap} {n0 : Nat} (X0 : Stand p l e room_1 s m #[(.int p0), (.int p1), (.long p2)] below meth c T0 locs 3 4) (hx : p.tables.exec = Jvm.exec) (hZ : Z.Warmed39 s.vm) (hw : ∀ d ∈ tables_1, d.before a0 Z = true) (hby : c.code = code) (hml : c.maxLocals = 15) (hown : s.vm.findClass "hexwright/engine/SealedBidsHasBidPinLaw" = some m.cls) (e0 : T0.heap = h0) (N0 : Fr n0 locs) (Z0 : n0 ≤ h0.size) (f1 : F_0 Z h0 c0_a (.ref c1_a)) (f2 : Arv Z h0 c1_a c2_k (.object "java/lang/Long") (2 : Int32) [gx0, .null] .null) (f3 : ¬ ((lcmpW jam (0 : Int64)) < (0 : Int32))) (f4 : ¬ ((0 : Int32) < (lcmpW jam (9223372036854775807 : Int64)))) (f5 : ¬ ((lcmpW jam (-128 : Int64)) < (0 : Int32))) (f6 : S_0 Z h0 (.ref a_cache)) (f7 : OwnAll Z h0 a_cache "java/lang/Long") (f8 : n0 ≤ c1_a) (f9 : Ovr Z c2_k "java/lang/Long") (f10 : E_1 Z h0 c0_a) :
    ∃ (T : State) (h : Heap) (L : List Loc) (bx81 : Addr), Stand p l e room_1 s m #[(.int p0), (.int p1), (.long p2)] below meth c T L 4 5 ∧ T.heap = h ∧ Fr n0 L ∧ Keep h0 h [c1_a] ∧ Arv Z h c1_a c2_k (.object "java/lang/Long") (2 : Int32) [gx0, (.ref bx81)] .null ∧ (∀ target, Steps p.tables e below (T.setTop (mkF m 131 #[.val (.int p0), .val (.int p1), .val (.long p2), .second, .val (.int gq4), .val (.int gq5), .val (.int 1), .val (.int gq7), .val (.int gq8), .val (.long jam), .second, .val (.long 9223372036854775807), .second, .val (.ref c0_a), .unset] [])) target → Steps p.tables e below (T0.setTop (mkF m 116 #[.val (.int p0), .val (.int p1), .val (.long p2), .second, .val (.int gq4), .val (.int gq5), .val (.int 1), .val (.int gq7), .val (.int gq8), .val (.long jam), .second, .val (.long 9223372036854775807), .second, .val (.ref c0_a), .unset] [])) target) := by
  -- pc 128: hexwright/engine/SealedBids.bid
  obtain ⟨cq1, kq1, q1a, q1b, q1c⟩ := isOf hZ e0 f10
  obtain ⟨_, _, ⟨T1, L1, k1, n1⟩, -, X1, ⟨Lc1, hQ1, l1, y1, z1⟩, st1⟩ := X0.virtualBack hx (y := M_5) (z := M_5) hown (mvT hZ (tw_14 hw)) (mvT hZ (tw_15 hw)) (notFace_of_selects (args := #[]) (mvT hZ (tw_17 hw))) (mvT hZ (tw_17 hw)) (mvT hZ (tw_16 hw)) (by decide) (backOf (W := 0) (rm3_79 l Z a0 hw [] c0_a jam c1_a c2_k gx0 a_cache h0 n0 Z0 f1 f2 f3 f4 f5 f6 f7 f8 f9) hZ (tw_18 hw) (tw_3 hw) (by decide) (by decide)) q1a q1c (g := (mkF m 128 #[.val (.int p0), .val (.int p1), .val (.long p2), .second, .val (.int gq4), .val (.int gq5), .val (.int 1), .val (.int gq7), .val (.int gq8), .val (.long jam), .second, .val (.long 9223372036854775807), .second, .val (.ref c0_a), .unset] [(.long 9223372036854775807), (.long jam), (.int 2), (.ref c0_a)])) rfl (by rw [hml]; rfl) (Steps.refl _) (argsL := [(.int 2), (.long jam), (.long 9223372036854775807)]) (rest := []) (lenOf pd_5 rfl) rfl (by show 2 * 0 + _ ≤ _; exact Nat.le_of_eq rfl) (hb hby at_128) (fun _ _ => ⟨rfl, e0, (by decide : 3 + 1 ≤ _), (by decide : 4 + 1 ≤ _)⟩)
  dsimp only [Pt.U, Pt.locs, Pt.cells, Pt.slots] at X1 l1 y1 z1 st1 hQ1
  subst l1 y1 z1
  obtain ⟨bx81, rfl, Nq1, K1, o1_0⟩ := hQ1
  have N1 := Fr.app N0 Nq1
  have KK1 : Keep h0 T1.heap [c1_a] := (Keep.refl h0 [c1_a]).trans K1 (fun x hx => (List.mem_cons.mp hx).elim (fun q => q ▸ (Or.inl (List.mem_of_getElem? (i := 0) rfl))) (fun hx => nomatch hx))
  refine ⟨T1, _, _, bx81, (X1.more (by decide) (by decide)), rfl, N1, KK1, o1_0, fun target kt => ?_⟩
  show Steps p.tables e below (T0.setTop (mkF m 116 #[.val (.int p0), .val (.int p1), .val (.long p2), .second, .val (.int gq4), .val (.int gq5), .val (.int 1), .val (.int gq7), .val (.int gq8), .val (.long jam), .second, .val (.long 9223372036854775807), .second, .val (.ref c0_a), .unset] [])) _
  refine XS.iload X0.here hx rfl (hb hby at_116) rfl ?_
  refine XS.ifNo X0.here hx rfl (hb hby at_118) rfl (by decide) ?_
  refine XS.aload X0.here hx rfl (hb hby at_121) rfl rfl ?_
  refine XS.iconst X0.here hx rfl (hb hby at_123) ?_
  refine XS.lload X0.here hx rfl (hb hby at_124) rfl ?_
  show Steps p.tables e below (T0.setTop (mkF m 126 #[.val (.int p0), .val (.int p1), .val (.long p2), .second, .val (.int gq4), .val (.int gq5), .val (.int 1), .val (.int gq7), .val (.int gq8), .val (.long jam), .second, .val (.long 9223372036854775807), .second, .val (.ref c0_a), .unset] [(.long jam), (.int 2), (.ref c0_a)])) _
  refine XS.lload X0.here hx rfl (hb hby at_126) rfl ?_
  show Steps p.tables e below (T0.setTop (mkF m 128 #[.val (.int p0), .val (.int p1), .val (.long p2), .second, .val (.int gq4), .val (.int gq5), .val (.int 1), .val (.int gq7), .val (.int gq8), .val (.long jam), .second, .val (.long 9223372036854775807), .second, .val (.ref c0_a), .unset] [(.long 9223372036854775807), (.long jam), (.int 2), (.ref c0_a)])) _
  refine st1.trans ?_
  show Steps p.tables e below (T1.setTop (mkF m 131 #[.val (.int p0), .val (.int p1), .val (.long p2), .second, .val (.int gq4), .val (.int gq5), .val (.int 1), .val (.int gq7), .val (.int gq8), .val (.long jam), .second, .val (.long 9223372036854775807), .second, .val (.ref c0_a), .unset] [])) _
  exact kt
set_option maxRecDepth 65536 in
set_option maxHeartbeats 40000000 in
theorem rm5_84 (l : Launch) (Z : State) (a0 : Array Value) (hw : ∀ d ∈ tables_1, d.before a0 Z = true) (ws : List Jvm.Cond) (c0_a : Addr) (c1_a : Addr) (c2_k : ClassId) (gx0 : Value) (c3_a : Addr) (h0 : Heap) (n0 : Nat) (Z0 : n0 ≤ h0.size) (f1 : F_0 Z h0 c0_a (.ref c1_a)) (f2 : Arv Z h0 c1_a c2_k (.object "java/lang/Long") (2 : Int32) [gx0, (.ref c3_a)] .null) :
    MetFree l M_1 (head1 (Jvm.Cond.code M_1 prog_14_method_4_code 2 (some .boolean) :: ws) R_0_0_0_0) (fun a U => a = #[(.ref c0_a), (.int 2)] ∧ Z.Warmed39 U.vm ∧ U.heap = h0) (fun _ _ _ _ _ => True) (fun _ U o U' => ∃ v L, o = .returned v ∧ QP (some (.int 1)) h0 n0 v U'.heap L ∧ FrameEnd U o U' L R_0_0_0_0.cells R_0_0_0_0.slots) := by
  refine MetFree.of_bodySF (plainFor_of_name pn_hexwright_engine_SealedBids) hisR ?_
  intro p e s m args below meth c s₁ Bd hml0 hP hK
  obtain ⟨rfl, hZ, hh⟩ := hP
  have hx := Bd.exec
  have hby := Bd.bytes
  have hml : c.maxLocals = 2 := hml0
  have hown : s.vm.findClass "hexwright/engine/SealedBids" = some m.cls := findClass_of_methodNamed Bd.named
  have hnm := (name_of_methodNamed Bd.named Bd.method).1
  have X0 : Stand p l e R_0_0_0_0 s m #[(.ref c0_a), (.int 2)] below meth c s₁ [] 0 0 := Stand.of_body Bd
  have e0 : s₁.heap = h0 := by rw [← hh, Bd.state]; rfl
  have N0 := Fr.nil n0
  obtain ⟨T1, X1, e1, st1⟩ := getF X0 hx hZ hown (host := "") (Or.inl (tw_12 hw)) Via.refl e0 f1 (g := (mkF m 1 #[.val (.ref c0_a), .val (.int 2)] [(.ref c0_a)])) rfl rfl (hb hby d5_1)
  have va2 := f2
  obtain ⟨cl2, Ar2, -, S2, -, H2, -⟩ := va2
  have hin2 : ¬ ((1 : Int32) < 0 ∨ cl2.slots.size ≤ ((1 : Int32)).toNatClampNeg) := inb_of S2 ⟨by decide, by decide⟩
  have hat2 : cl2.slots[((1 : Int32)).toNatClampNeg]? = some (.ref c3_a) := H2 _ (Nat.lt_of_not_le fun y => hin2 (Or.inr y))
  obtain ⟨fs, hr, hrun, hended, hW, hsame⟩ := X1.leave (v := (some (.int 1))) (fun h => by rw [Bd.returns] at h; cases h)
  refine ⟨_, _, castTop (ef5_RI m c0_a (2 : Int32)) ?_, hrun, hended, _, _, rfl, ?_, ⟨_, rfl⟩, hW, hsame.mono (by decide) (by decide)⟩
  · show Steps p.tables e below (s₁.setTop (mkF m 0 #[.val (.ref c0_a), .val (.int 2)] [])) _
    refine XS.aloadN X0.here hx rfl (hb hby d5_0) rfl rfl ?_
    show Steps p.tables e below (s₁.setTop (mkF m 1 #[.val (.ref c0_a), .val (.int 2)] [(.ref c0_a)])) _
    refine st1 _ ?_
    refine XS.iloadN X1.here hx rfl (hb hby d5_4) rfl ?_
    refine XS.iconst X1.here hx rfl (hb hby d5_5) ?_
    show Steps p.tables e below (T1.setTop (mkF m 6 #[.val (.ref c0_a), .val (.int 2)] [(.int 1), (.int 2), (.ref c1_a)])) _
    refine XS.isub X1.here hx rfl (hb hby d5_6) rfl ?_
    show Steps p.tables e below (T1.setTop (mkF m 7 #[.val (.ref c0_a), .val (.int 2)] [(.int ((2 : Int32) - (1 : Int32))), (.ref c1_a)])) _
    rw [show ((2 : Int32) - (1 : Int32)) = (1 : Int32) from by decide]
    show Steps p.tables e below (T1.setTop (mkF m 7 #[.val (.ref c0_a), .val (.int 2)] [(.int 1), (.ref c1_a)])) _
    refine X1.aaload hx (j := (1 : Int32)) (v := (.ref c3_a)) (by rw [e1]; exact Ar2.1) (State.isArrayOf_alike hZ.alike Ar2.2.1) rfl Ar2.2.2 hin2 hat2 (g := (mkF m 7 #[.val (.ref c0_a), .val (.int 2)] [(.int 1), (.ref c1_a)])) rfl rfl (hb hby d5_7) _ ?_
    refine XS.ifnullNo X1.here hx rfl (hb hby d5_8) rfl ?_
    refine XS.iconst X1.here hx rfl (hb hby d5_11) ?_
    refine XS.goto X1.here hx rfl (pc0 := 12) (pc' := 16) rfl (hb hby d5_12) (by decide) (by decide) ?_
    show Steps p.tables e below (T1.setTop (mkF m 16 #[.val (.ref c0_a), .val (.int 2)] [(.int 1)])) _
    exact retN X1 hx (t := .boolean) Bd.returns (by simp) (hb hby d5_16) hr
  · show QP (some (.int 1)) h0 n0 _ T1.heap _
    rw [e1]
    exact ⟨rfl, N0, rfl⟩
set_option maxRecDepth 65536 in
set_option maxHeartbeats 40000000 in
theorem sg179_85 {p : Program} {l : Launch} {e : Env} {s : State} {m : MethodId} {below : List Frame} {meth : Method} {c : Code} {T0 : State} {locs : List Loc} {Z : State} {a0 : Array Value} (p0 : Int32) (p1 : Int32) (p2 : Int64) (gq5 : Int32) (gq7 : Int32) (gq8 : Int32) (jam : Int64) (gq11 : Int64) (c0_a : Addr) (c1_a : Addr) (c2_k : ClassId) (gx0 : Value) (c3_a : Addr) {h0 : Heap} {n0 : Nat} (X0 : Stand p l e room_1 s m #[(.int p0), (.int p1), (.long p2)] below meth c T0 locs 6 7) (hx : p.tables.exec = Jvm.exec) (hZ : Z.Warmed39 s.vm) (hw : ∀ d ∈ tables_1, d.before a0 Z = true) (hby : c.code = code) (hml : c.maxLocals = 15) (hown : s.vm.findClass "hexwright/engine/SealedBidsHasBidPinLaw" = some m.cls) (e0 : T0.heap = h0) (N0 : Fr n0 locs) (Z0 : n0 ≤ h0.size) (f1 : F_0 Z h0 c0_a (.ref c1_a)) (f2 : Arv Z h0 c1_a c2_k (.object "java/lang/Long") (2 : Int32) [gx0, (.ref c3_a)] .null) (f3 : E_1 Z h0 c0_a) :
    ∃ (T : State) (L : List Loc), Stand p l e room_1 s m #[(.int p0), (.int p1), (.long p2)] below meth c T L 6 7 ∧ T.heap = h0 ∧ Fr n0 L ∧ (∀ target, Steps p.tables e below (T.setTop (mkF m 208 #[.val (.int p0), .val (.int p1), .val (.long p2), .second, .val (.int 2), .val (.int gq5), .val (.int 1), .val (.int gq7), .val (.int gq8), .val (.long jam), .second, .val (.long gq11), .second, .val (.ref c0_a), .val (.int 1)] [])) target → Steps p.tables e below (T0.setTop (mkF m 179 #[.val (.int p0), .val (.int p1), .val (.long p2), .second, .val (.int 2), .val (.int gq5), .val (.int 1), .val (.int gq7), .val (.int gq8), .val (.long jam), .second, .val (.long gq11), .second, .val (.ref c0_a), .val (.int 1)] [])) target) := by
  -- pc 193: hexwright/engine/SealedBids.hasBid
  obtain ⟨cq1, kq1, q1a, q1b, q1c⟩ := isOf hZ e0 f3
  obtain ⟨_, _, ⟨T1, L1, k1, n1⟩, -, X1, ⟨Lc1, hQ1, l1, y1, z1⟩, st1⟩ := X0.virtualBack hx (y := M_1) (z := M_1) hown (mvT hZ (tw_28 hw)) (mvT hZ (tw_29 hw)) (notFace_of_selects (args := #[]) (mvT hZ (tw_31 hw))) (mvT hZ (tw_31 hw)) (mvT hZ (tw_30 hw)) (by decide) (backOf (W := 0) (rm5_84 l Z a0 hw [] c0_a c1_a c2_k gx0 c3_a h0 n0 Z0 f1 f2) hZ (tw_32 hw) (tw_3 hw) (by decide) (by decide)) q1a q1c (g := (mkF m 193 #[.val (.int p0), .val (.int p1), .val (.long p2), .second, .val (.int 2), .val (.int gq5), .val (.int 1), .val (.int gq7), .val (.int gq8), .val (.long jam), .second, .val (.long gq11), .second, .val (.ref c0_a), .val (.int 1)] [(.int 2), (.ref c0_a)])) rfl (by rw [hml]; rfl) (Steps.refl _) (argsL := [(.int 2)]) (rest := []) (lenOf pd_1 rfl) rfl (by show 2 * 0 + _ ≤ _; exact Nat.le_of_eq rfl) (hb hby at_193) (fun _ _ => ⟨rfl, e0, (by decide : 6 + 0 ≤ _), (by decide : 7 + 0 ≤ _)⟩)
  dsimp only [Pt.U, Pt.locs, Pt.cells, Pt.slots] at X1 l1 y1 z1 st1 hQ1
  subst l1 y1 z1
  obtain ⟨rfl, Nq1, e1⟩ := hQ1
  have N1 := Fr.app N0 Nq1
  refine ⟨T1, _, X1, e1, N1, fun target kt => ?_⟩
  show Steps p.tables e below (T0.setTop (mkF m 179 #[.val (.int p0), .val (.int p1), .val (.long p2), .second, .val (.int 2), .val (.int gq5), .val (.int 1), .val (.int gq7), .val (.int gq8), .val (.long jam), .second, .val (.long gq11), .second, .val (.ref c0_a), .val (.int 1)] [])) _
  refine XS.iload X0.here hx rfl (hb hby at_179) rfl ?_
  refine XS.iconst X0.here hx rfl (hb hby at_181) ?_
  refine XS.icmpNo X0.here hx rfl (hb hby at_182) rfl (by decide) ?_
  refine XS.iload X0.here hx rfl (hb hby at_185) rfl ?_
  refine XS.ifNo X0.here hx rfl (hb hby at_187) rfl (by decide) ?_
  show Steps p.tables e below (T0.setTop (mkF m 190 #[.val (.int p0), .val (.int p1), .val (.long p2), .second, .val (.int 2), .val (.int gq5), .val (.int 1), .val (.int gq7), .val (.int gq8), .val (.long jam), .second, .val (.long gq11), .second, .val (.ref c0_a), .val (.int 1)] [])) _
  refine XS.aload X0.here hx rfl (hb hby at_190) rfl rfl ?_
  refine XS.iconst X0.here hx rfl (hb hby at_192) ?_
  show Steps p.tables e below (T0.setTop (mkF m 193 #[.val (.int p0), .val (.int p1), .val (.long p2), .second, .val (.int 2), .val (.int gq5), .val (.int 1), .val (.int gq7), .val (.int gq8), .val (.long jam), .second, .val (.long gq11), .second, .val (.ref c0_a), .val (.int 1)] [(.int 2), (.ref c0_a)])) _
  refine st1.trans ?_
  refine XS.iload X1.here hx rfl (hb hby at_196) rfl ?_
  refine XS.icmpNo X1.here hx rfl (hb hby at_198) rfl (by decide) ?_
  refine XS.iconst X1.here hx rfl (hb hby at_201) ?_
  refine XS.goto X1.here hx rfl (pc0 := 202) (pc' := 206) rfl (hb hby at_202) (by decide) (by decide) ?_
  show Steps p.tables e below (T1.setTop (mkF m 206 #[.val (.int p0), .val (.int p1), .val (.long p2), .second, .val (.int 2), .val (.int gq5), .val (.int 1), .val (.int gq7), .val (.int gq8), .val (.long jam), .second, .val (.long gq11), .second, .val (.ref c0_a), .val (.int 1)] [(.int 1)])) _
  refine XS.istore X1.here hx rfl (hb hby at_206) rfl (l' := #[.val (.int p0), .val (.int p1), .val (.long p2), .second, .val (.int 2), .val (.int gq5), .val (.int 1), .val (.int gq7), .val (.int gq8), .val (.long jam), .second, .val (.long gq11), .second, .val (.ref c0_a), .val (.int 1)]) rfl ?_
  show Steps p.tables e below (T1.setTop (mkF m 208 #[.val (.int p0), .val (.int p1), .val (.long p2), .second, .val (.int 2), .val (.int gq5), .val (.int 1), .val (.int gq7), .val (.int gq8), .val (.long jam), .second, .val (.long gq11), .second, .val (.ref c0_a), .val (.int 1)] [])) _
  exact kt
set_option maxRecDepth 65536 in
set_option maxHeartbeats 40000000 in
theorem rm0_86 (l : Launch) (Z : State) (a0 : Array Value) (hw : ∀ d ∈ tables_1, d.before a0 Z = true) (ws : List Jvm.Cond) (p0 : Int32) (p1 : Int32) (p2 : Int64) (jam : Int64) (a_cache : Addr) (h0 : Heap) (n0 : Nat) (Z0 : n0 ≤ h0.size) (f1 : (p0 &&& (3 : Int32)) = (1 : Int32)) (f2 : (p1 &&& (1 : Int32)) = (0 : Int32)) (f3 : ¬ ((p1 &&& (2 : Int32)) = (0 : Int32))) (f4 : (p2 &&& (9223372036854775807 : Int64)) = jam) (f5 : ¬ ((lcmpW jam (0 : Int64)) < (0 : Int32))) (f6 : ¬ ((0 : Int32) < (lcmpW jam (9223372036854775807 : Int64)))) (f7 : ¬ ((lcmpW jam (-128 : Int64)) < (0 : Int32))) (f8 : S_0 Z h0 (.ref a_cache)) (f9 : OwnAll Z h0 a_cache "java/lang/Long") :
    MetFree l x (head1 (Jvm.Cond.code x code maxLocals ret :: ws) room_1) (fun a U => a = #[(.int p0), (.int p1), (.long p2)] ∧ Z.Warmed39 U.vm ∧ U.heap = h0) (fun _ _ _ _ _ => True) (fun _ U o U' => ∃ v L, o = .returned v ∧ QT n0 v U'.heap L ∧ FrameEnd U o U' L room_1.cells room_1.slots) := by
  refine MetFree.of_bodySF (plainFor_of_name pn_hexwright_engine_SealedBidsHasBidPinLaw) hisR ?_
  intro p e s m args below meth c s₁ Bd hml0 hP hK
  obtain ⟨rfl, hZ, hh⟩ := hP
  have hx := Bd.exec
  have hby := Bd.bytes
  have hml : c.maxLocals = 15 := hml0
  have hown : s.vm.findClass "hexwright/engine/SealedBidsHasBidPinLaw" = some m.cls := findClass_of_methodNamed Bd.named
  have hnm := (name_of_methodNamed Bd.named Bd.method).1
  have X0 : Stand p l e room_1 s m #[(.int p0), (.int p1), (.long p2)] below meth c s₁ [] 0 0 := Stand.of_body Bd
  have e0 : s₁.heap = h0 := by rw [← hh, Bd.state]; rfl
  have N0 := Fr.nil n0
  obtain ⟨T1, L1, X1, e1, N1, st1⟩ := sg7_1 p0 p1 p2 (2 : Int32) X0 hx hZ hw hby hml hown e0 N0 Z0 f2
  obtain ⟨T2, L2, X2, e2, N2, st2⟩ := sg20_74 p0 p1 p2 (0 : Int32) X1 hx hZ hw hby hml hown e1 N1 Z0 f3
  obtain ⟨T3, L3, X3, e3, N3, st3⟩ := sg39_50 p0 p1 p2 (0 : Int32) (1 : Int32) X2 hx hZ hw hby hml hown e2 N2 Z0 
  obtain ⟨T4, L4, X4, e4, N4, st4⟩ := sg58_51 p0 p1 p2 (0 : Int32) (1 : Int32) (0 : Int32) X3 hx hZ hw hby hml hown e3 N3 Z0 
  obtain ⟨T5, L5, X5, e5, N5, st5⟩ := sg78_5 p0 p1 p2 (2 : Int32) (0 : Int32) (1 : Int32) (0 : Int32) (0 : Int32) jam X4 hx hZ hw hby hml hown e4 N4 Z0 f4
  obtain ⟨T6, h6, L6, b75, b76, kc77, X6, e6, N6, K6, le_b75, le_b76, o6_0, o6_1, o6_2, o6_3, o6_4, st6⟩ := sg90_59 p0 p1 p2 (0 : Int32) (1 : Int32) (0 : Int32) (0 : Int32) jam (9223372036854775807 : Int64) X5 hx hZ hw hby hml hown e5 N5 Z0 
  have sz_b75 : h0.size ≤ b75 := Nat.le_trans (Nat.le_refl _) le_b75
  have g_b75 : n0 ≤ b75 := Nat.le_trans Z0 sz_b75
  have sz_b76 : h0.size ≤ b76 := Nat.le_trans (Nat.le_refl _) le_b76
  have g_b76 : n0 ≤ b76 := Nat.le_trans Z0 sz_b76
  have KK6 : Keep h0 h6 [] := (Keep.refl h0 []).trans K6 (fun x hx => nomatch hx)
  obtain ⟨T7, L7, X7, e7, N7, st7⟩ := sg101_63 p0 p1 p2 (2 : Int32) (1 : Int32) (0 : Int32) (0 : Int32) jam b75 X6 hx hZ hw hby hml hown e6 N6 (Nat.le_trans Z0 KK6.1) 
  have u9 : S_0 Z h6 (.ref a_cache) := own_sta_keep f8 K6 (fun _ q => nomatch q)
  have u10 : OwnAll Z h6 a_cache "java/lang/Long" := own_all_keep f9 K6 List.not_mem_nil
  obtain ⟨T8, h8, L8, bx83, X8, e8, N8, K8, o8_0, st8⟩ := sg116_82 p0 p1 p2 (2 : Int32) (0 : Int32) (0 : Int32) (0 : Int32) jam b75 b76 kc77 .null a_cache X7 hx hZ hw hby hml hown e7 N7 (Nat.le_trans Z0 KK6.1) o6_1 o6_2 f5 f6 f7 u9 u10 g_b76 o6_3 o6_0
  have KK8 : Keep h0 h8 [] := KK6.trans K8 (fun x hx => (List.mem_cons.mp hx).elim (fun q => q ▸ (Or.inr sz_b76)) (fun hx => nomatch hx))
  obtain ⟨T11, L11, X11, e11, N11, st11⟩ := sg131_65 p0 p1 p2 (2 : Int32) (0 : Int32) (1 : Int32) (0 : Int32) jam b75 X8 hx hZ hw hby hml hown e8 N8 (Nat.le_trans Z0 KK8.1) 
  obtain ⟨T12, L12, X12, e12, N12, st12⟩ := sg146_66 p0 p1 p2 (2 : Int32) (0 : Int32) (1 : Int32) (0 : Int32) jam b75 X11 hx hZ hw hby hml hown e11 N11 (Nat.le_trans Z0 KK8.1) 
  have u14 : F_0 Z h8 b75 (.ref b76) := Fld.keep o6_1 K8 (own_notin o6_4 List.not_mem_nil)
  have u15 : E_1 Z h8 b75 := Exa.keep o6_0 K8
  obtain ⟨T13, L13, X13, e13, N13, st13⟩ := sg161_68 p0 p1 p2 (2 : Int32) (1 : Int32) (0 : Int32) (0 : Int32) jam (9223372036854775807 : Int64) b75 b76 kc77 (.ref bx83) X12 hx hZ hw hby hml hown e12 N12 (Nat.le_trans Z0 KK8.1) u14 o8_0 u15
  obtain ⟨T16, L16, X16, e16, N16, st16⟩ := sg179_85 p0 p1 p2 (0 : Int32) (0 : Int32) (0 : Int32) jam (9223372036854775807 : Int64) b75 b76 kc77 .null bx83 X13 hx hZ hw hby hml hown e13 N13 (Nat.le_trans Z0 KK8.1) u14 o8_0 u15
  obtain ⟨T17, L17, X17, e17, N17, st17⟩ := sg208_71 p0 p1 p2 (0 : Int32) (1 : Int32) (0 : Int32) jam (9223372036854775807 : Int64) b75 X16 hx hZ hw hby hml hown e16 N16 (Nat.le_trans Z0 KK8.1) 
  obtain ⟨T18, L18, X18, e18, N18, st18⟩ := sg237_72 p0 p1 p2 (0 : Int32) (1 : Int32) (0 : Int32) jam (9223372036854775807 : Int64) b75 X17 hx hZ hw hby hml hown e17 N17 (Nat.le_trans Z0 KK8.1) 
  obtain ⟨fs, hr, hrun, hended, hW, hsame⟩ := X18.leave (v := (some (.int 1))) (fun h => by rw [Bd.returns] at h; cases h)
  refine ⟨_, _, castTop (ef0_IIJ m p0 p1 p2) ?_, hrun, hended, _, _, rfl, ?_, ⟨_, rfl⟩, hW, hsame.mono (by decide) (by decide)⟩
  · show Steps p.tables e below (s₁.setTop (mkF m 0 #[.val (.int p0), .val (.int p1), .val (.long p2), .second, .unset, .unset, .unset, .unset, .unset, .unset, .unset, .unset, .unset, .unset, .unset] [])) _
    refine XS.iloadN X0.here hx rfl (hb hby at_0) rfl ?_
    refine XS.iconst X0.here hx rfl (hb hby at_1) ?_
    show Steps p.tables e below (s₁.setTop (mkF m 2 #[.val (.int p0), .val (.int p1), .val (.long p2), .second, .unset, .unset, .unset, .unset, .unset, .unset, .unset, .unset, .unset, .unset, .unset] [(.int 3), (.int p0)])) _
    refine XS.iand X0.here hx rfl (hb hby at_2) rfl ?_
    show Steps p.tables e below (s₁.setTop (mkF m 3 #[.val (.int p0), .val (.int p1), .val (.long p2), .second, .unset, .unset, .unset, .unset, .unset, .unset, .unset, .unset, .unset, .unset, .unset] [(.int (p0 &&& (3 : Int32)))])) _
    rw [f1]
    refine XS.iconst X0.here hx rfl (hb hby at_3) ?_
    show Steps p.tables e below (s₁.setTop (mkF m 4 #[.val (.int p0), .val (.int p1), .val (.long p2), .second, .unset, .unset, .unset, .unset, .unset, .unset, .unset, .unset, .unset, .unset, .unset] [(.int 1), (.int 1)])) _
    refine XS.iadd X0.here hx rfl (hb hby at_4) rfl ?_
    show Steps p.tables e below (s₁.setTop (mkF m 5 #[.val (.int p0), .val (.int p1), .val (.long p2), .second, .unset, .unset, .unset, .unset, .unset, .unset, .unset, .unset, .unset, .unset, .unset] [(.int ((1 : Int32) + (1 : Int32)))])) _
    rw [show ((1 : Int32) + (1 : Int32)) = (2 : Int32) from by decide]
    refine XS.istore X0.here hx rfl (hb hby at_5) rfl (l' := #[.val (.int p0), .val (.int p1), .val (.long p2), .second, .val (.int 2), .unset, .unset, .unset, .unset, .unset, .unset, .unset, .unset, .unset, .unset]) rfl ?_
    show Steps p.tables e below (s₁.setTop (mkF m 7 #[.val (.int p0), .val (.int p1), .val (.long p2), .second, .val (.int 2), .unset, .unset, .unset, .unset, .unset, .unset, .unset, .unset, .unset, .unset] [])) _
    refine st1 _ ?_
    show Steps p.tables e below (T1.setTop (mkF m 20 #[.val (.int p0), .val (.int p1), .val (.long p2), .second, .val (.int 2), .val (.int 0), .unset, .unset, .unset, .unset, .unset, .unset, .unset, .unset, .unset] [])) _
    refine st2 _ ?_
    show Steps p.tables e below (T2.setTop (mkF m 39 #[.val (.int p0), .val (.int p1), .val (.long p2), .second, .val (.int 2), .val (.int 0), .val (.int 1), .unset, .unset, .unset, .unset, .unset, .unset, .unset, .unset] [])) _
    refine st3 _ ?_
    show Steps p.tables e below (T3.setTop (mkF m 58 #[.val (.int p0), .val (.int p1), .val (.long p2), .second, .val (.int 2), .val (.int 0), .val (.int 1), .val (.int 0), .unset, .unset, .unset, .unset, .unset, .unset, .unset] [])) _
    refine st4 _ ?_
    show Steps p.tables e below (T4.setTop (mkF m 78 #[.val (.int p0), .val (.int p1), .val (.long p2), .second, .val (.int 2), .val (.int 0), .val (.int 1), .val (.int 0), .val (.int 0), .unset, .unset, .unset, .unset, .unset, .unset] [])) _
    refine st5 _ ?_
    show Steps p.tables e below (T5.setTop (mkF m 90 #[.val (.int p0), .val (.int p1), .val (.long p2), .second, .val (.int 2), .val (.int 0), .val (.int 1), .val (.int 0), .val (.int 0), .val (.long jam), .second, .val (.long 9223372036854775807), .second, .unset, .unset] [])) _
    refine st6 _ ?_
    show Steps p.tables e below (T6.setTop (mkF m 101 #[.val (.int p0), .val (.int p1), .val (.long p2), .second, .val (.int 2), .val (.int 0), .val (.int 1), .val (.int 0), .val (.int 0), .val (.long jam), .second, .val (.long 9223372036854775807), .second, .val (.ref b75), .unset] [])) _
    refine st7 _ ?_
    show Steps p.tables e below (T7.setTop (mkF m 116 #[.val (.int p0), .val (.int p1), .val (.long p2), .second, .val (.int 2), .val (.int 0), .val (.int 1), .val (.int 0), .val (.int 0), .val (.long jam), .second, .val (.long 9223372036854775807), .second, .val (.ref b75), .unset] [])) _
    refine st8 _ ?_
    show Steps p.tables e below (T8.setTop (mkF m 131 #[.val (.int p0), .val (.int p1), .val (.long p2), .second, .val (.int 2), .val (.int 0), .val (.int 1), .val (.int 0), .val (.int 0), .val (.long jam), .second, .val (.long 9223372036854775807), .second, .val (.ref b75), .unset] [])) _
    refine st11 _ ?_
    show Steps p.tables e below (T11.setTop (mkF m 146 #[.val (.int p0), .val (.int p1), .val (.long p2), .second, .val (.int 2), .val (.int 0), .val (.int 1), .val (.int 0), .val (.int 0), .val (.long jam), .second, .val (.long 9223372036854775807), .second, .val (.ref b75), .unset] [])) _
    refine st12 _ ?_
    show Steps p.tables e below (T12.setTop (mkF m 161 #[.val (.int p0), .val (.int p1), .val (.long p2), .second, .val (.int 2), .val (.int 0), .val (.int 1), .val (.int 0), .val (.int 0), .val (.long jam), .second, .val (.long 9223372036854775807), .second, .val (.ref b75), .unset] [])) _
    refine st13 _ ?_
    show Steps p.tables e below (T13.setTop (mkF m 179 #[.val (.int p0), .val (.int p1), .val (.long p2), .second, .val (.int 2), .val (.int 0), .val (.int 1), .val (.int 0), .val (.int 0), .val (.long jam), .second, .val (.long 9223372036854775807), .second, .val (.ref b75), .val (.int 1)] [])) _
    refine st16 _ ?_
    show Steps p.tables e below (T16.setTop (mkF m 208 #[.val (.int p0), .val (.int p1), .val (.long p2), .second, .val (.int 2), .val (.int 0), .val (.int 1), .val (.int 0), .val (.int 0), .val (.long jam), .second, .val (.long 9223372036854775807), .second, .val (.ref b75), .val (.int 1)] [])) _
    refine st17 _ ?_
    show Steps p.tables e below (T17.setTop (mkF m 237 #[.val (.int p0), .val (.int p1), .val (.long p2), .second, .val (.int 2), .val (.int 0), .val (.int 1), .val (.int 0), .val (.int 0), .val (.long jam), .second, .val (.long 9223372036854775807), .second, .val (.ref b75), .val (.int 1)] [])) _
    refine st18 _ ?_
    refine XS.iload X18.here hx rfl (hb hby at_266) rfl ?_
    show Steps p.tables e below (T18.setTop (mkF m 268 #[.val (.int p0), .val (.int p1), .val (.long p2), .second, .val (.int 2), .val (.int 0), .val (.int 1), .val (.int 0), .val (.int 0), .val (.long jam), .second, .val (.long 9223372036854775807), .second, .val (.ref b75), .val (.int 1)] [(.int 1)])) _
    exact retN X18 hx (t := .boolean) Bd.returns (by simp) (hb hby at_268) hr
  · show QT n0 _ T18.heap _
    rw [e18]
    exact ⟨rfl, N18⟩
def Q3_92 (Z : State) (c1_a : Addr) (c2_k : ClassId) (gx1 : Value) (h0 : Heap) (n0 : Nat) (v : Option Value) (h : Heap) (L : List Loc) : Prop := ∃ (bx90 : Addr), v = none ∧ Fr n0 L ∧ Keep h0 h [c1_a] ∧ Arv Z h c1_a c2_k (.object "java/lang/Long") (2 : Int32) [(.ref bx90), gx1] .null
set_option maxRecDepth 65536 in
set_option maxHeartbeats 40000000 in
theorem rm3_91 (l : Launch) (Z : State) (a0 : Array Value) (hw : ∀ d ∈ tables_1, d.before a0 Z = true) (ws : List Jvm.Cond) (c0_a : Addr) (jam : Int64) (c1_a : Addr) (c2_k : ClassId) (gx1 : Value) (a_cache : Addr) (h0 : Heap) (n0 : Nat) (Z0 : n0 ≤ h0.size) (f1 : F_0 Z h0 c0_a (.ref c1_a)) (f2 : Arv Z h0 c1_a c2_k (.object "java/lang/Long") (2 : Int32) [.null, gx1] .null) (f3 : ¬ ((lcmpW jam (0 : Int64)) < (0 : Int32))) (f4 : ¬ ((0 : Int32) < (lcmpW jam (9223372036854775807 : Int64)))) (f5 : ¬ ((lcmpW jam (-128 : Int64)) < (0 : Int32))) (f6 : S_0 Z h0 (.ref a_cache)) (f7 : OwnAll Z h0 a_cache "java/lang/Long") (f8 : n0 ≤ c1_a) (f9 : Ovr Z c2_k "java/lang/Long") :
    MetFree l M_5 (head1 (Jvm.Cond.code M_5 prog_14_method_2_code 6 none :: ws) R_4_1_1_55) (fun a U => a = #[(.ref c0_a), (.int 1), (.long jam), (.long 9223372036854775807)] ∧ Z.Warmed39 U.vm ∧ U.heap = h0) (fun _ _ _ _ _ => True) (fun _ U o U' => ∃ v L, o = .returned v ∧ Q3_92 Z c1_a c2_k gx1 h0 n0 v U'.heap L ∧ FrameEnd U o U' L R_4_1_1_55.cells R_4_1_1_55.slots) := by
  refine MetFree.of_bodySF (plainFor_of_name pn_hexwright_engine_SealedBids) hisR ?_
  intro p e s m args below meth c s₁ Bd hml0 hP hK
  obtain ⟨rfl, hZ, hh⟩ := hP
  have hx := Bd.exec
  have hby := Bd.bytes
  have hml : c.maxLocals = 6 := hml0
  have hown : s.vm.findClass "hexwright/engine/SealedBids" = some m.cls := findClass_of_methodNamed Bd.named
  have hnm := (name_of_methodNamed Bd.named Bd.method).1
  have X0 : Stand p l e R_4_1_1_55 s m #[(.ref c0_a), (.int 1), (.long jam), (.long 9223372036854775807)] below meth c s₁ [] 0 0 := Stand.of_body Bd
  have e0 : s₁.heap = h0 := by rw [← hh, Bd.state]; rfl
  have N0 := Fr.nil n0
  obtain ⟨T1, X1, e1, st1⟩ := getF X0 hx hZ hown (host := "") (Or.inl (tw_12 hw)) Via.refl e0 f1 (g := (mkF m 1 #[.val (.ref c0_a), .val (.int 1), .val (.long jam), .second, .val (.long 9223372036854775807), .second] [(.ref c0_a)])) rfl rfl (hb hby d3_1)
  have va2 := f2
  obtain ⟨cl2, Ar2, -, S2, -, H2, -⟩ := va2
  have hin2 : ¬ ((0 : Int32) < 0 ∨ cl2.slots.size ≤ ((0 : Int32)).toNatClampNeg) := inb_of S2 ⟨by decide, by decide⟩
  have hat2 : cl2.slots[((0 : Int32)).toNatClampNeg]? = some .null := H2 _ (Nat.lt_of_not_le fun y => hin2 (Or.inr y))
  obtain ⟨T3, X3, e3, st3⟩ := getF X1 hx hZ hown (host := "") (Or.inl (tw_12 hw)) Via.refl e1 f1 (g := (mkF m 56 #[.val (.ref c0_a), .val (.int 1), .val (.long jam), .second, .val (.long 9223372036854775807), .second] [(.ref c0_a)])) rfl rfl (hb hby d3_56)
  -- pc 63: java/lang/Long.valueOf
  obtain ⟨_, _, ⟨T4, L4, k4, n4⟩, -, X4, ⟨Lc4, hQ4, l4, y4, z4⟩, st4⟩ := Jvm.LawKit.callS X3 hx (y := M_4) hown (mvT hZ (tw_19 hw)) (mvT hZ (tw_20 hw)) (mvT hZ (tw_21 hw)) (mvT hZ (tw_22 hw)) (by decide) (backOf (W := 2) (rmB_38 l Z a0 hw [] jam a_cache h0 n0 Z0 f5 f6 f7) hZ (tw_22 hw) (tw_21 hw) (by decide) (by decide)) (g := (mkF m 63 #[.val (.ref c0_a), .val (.int 1), .val (.long jam), .second, .val (.long 9223372036854775807), .second] [(.long jam), (.int 0), (.ref c1_a)])) rfl (by rw [hml]; rfl) (argsL := [(.long jam)]) (rest := [(.int 0), (.ref c1_a)]) (lenOf pd_4 rfl) rfl (by show 2 * 0 + _ ≤ _; exact Nat.le_of_eq rfl) (hb hby d3_63) (fun _ _ => ⟨rfl, e3, (by decide : 0 + 1 ≤ _), (by decide : 0 + 1 ≤ _)⟩)
  dsimp only [Pt.U, Pt.locs, Pt.cells, Pt.slots] at X4 l4 y4 z4 st4 hQ4
  subst l4 y4 z4
  obtain ⟨bx90, rfl, Nq4, K4, o4_0⟩ := hQ4
  have N4 := Fr.app N0 Nq4
  have KK4 : Keep h0 T4.heap [c1_a] := (Keep.refl h0 [c1_a]).trans K4 (fun x hx => nomatch hx)
  have u5 : Arv Z T4.heap c1_a c2_k (.object "java/lang/Long") (2 : Int32) [.null, gx1] .null := Arv.keep f2 K4 List.not_mem_nil
  have va6 := u5
  obtain ⟨cl6, Ar6, q6, S6, N6_, H6, G6⟩ := va6
  have hin6 : ¬ ((0 : Int32) < 0 ∨ cl6.slots.size ≤ ((0 : Int32)).toNatClampNeg) := inb_of S6 ⟨by decide, by decide⟩
  obtain ⟨T7, h7, X7, e7, W7, st7⟩ := stR X4 hx hZ rfl Ar6 (j := (0 : Int32)) hin6 rfl (Sto.ofV Ar6 q6 f9 (Ins.self o4_0)) (g := (mkF m 66 #[.val (.ref c0_a), .val (.int 1), .val (.long jam), .second, .val (.long 9223372036854775807), .second] [(.ref bx90), (.int 0), (.ref c1_a)])) rfl rfl (hb hby d3_66)
  have Vw7 : Arv Z h7 c1_a c2_k (.object "java/lang/Long") (2 : Int32) [(.ref bx90), gx1] .null := Arv.set Ar6 q6 S6 N6_ H6 G6 rfl W7 0 rfl (Nat.le_of_ble_eq_true rfl)
  have KK7 : Keep h0 h7 [c1_a] := KK4.wr W7 (Or.inl (List.mem_of_getElem? (i := 0) rfl))
  have N7 := Fr.snoc X7 N4 f8
  obtain ⟨fs, hr, hrun, hended, hW, hsame⟩ := X7.leave (v := none) (fun _ => rfl)
  refine ⟨_, _, castTop (ef3_RIJJ m c0_a (1 : Int32) jam (9223372036854775807 : Int64)) ?_, hrun, hended, _, _, rfl, ?_, ⟨_, rfl⟩, hW, hsame.mono (by decide) (by decide)⟩
  · show Steps p.tables e below (s₁.setTop (mkF m 0 #[.val (.ref c0_a), .val (.int 1), .val (.long jam), .second, .val (.long 9223372036854775807), .second] [])) _
    refine XS.aloadN X0.here hx rfl (hb hby d3_0) rfl rfl ?_
    show Steps p.tables e below (s₁.setTop (mkF m 1 #[.val (.ref c0_a), .val (.int 1), .val (.long jam), .second, .val (.long 9223372036854775807), .second] [(.ref c0_a)])) _
    refine st1 _ ?_
    refine XS.iloadN X1.here hx rfl (hb hby d3_4) rfl ?_
    refine XS.iconst X1.here hx rfl (hb hby d3_5) ?_
    show Steps p.tables e below (T1.setTop (mkF m 6 #[.val (.ref c0_a), .val (.int 1), .val (.long jam), .second, .val (.long 9223372036854775807), .second] [(.int 1), (.int 1), (.ref c1_a)])) _
    refine XS.isub X1.here hx rfl (hb hby d3_6) rfl ?_
    show Steps p.tables e below (T1.setTop (mkF m 7 #[.val (.ref c0_a), .val (.int 1), .val (.long jam), .second, .val (.long 9223372036854775807), .second] [(.int ((1 : Int32) - (1 : Int32))), (.ref c1_a)])) _
    rw [show ((1 : Int32) - (1 : Int32)) = (0 : Int32) from by decide]
    show Steps p.tables e below (T1.setTop (mkF m 7 #[.val (.ref c0_a), .val (.int 1), .val (.long jam), .second, .val (.long 9223372036854775807), .second] [(.int 0), (.ref c1_a)])) _
    refine X1.aaload hx (j := (0 : Int32)) (v := .null) (by rw [e1]; exact Ar2.1) (State.isArrayOf_alike hZ.alike Ar2.2.1) rfl Ar2.2.2 hin2 hat2 (g := (mkF m 7 #[.val (.ref c0_a), .val (.int 1), .val (.long jam), .second, .val (.long 9223372036854775807), .second] [(.int 0), (.ref c1_a)])) rfl rfl (hb hby d3_7) _ ?_
    refine XS.ifnullYes X1.here hx rfl (pc0 := 8) (pc' := 25) rfl (hb hby d3_8) rfl (by decide) (by decide) ?_
    refine XS.lloadN X1.here hx rfl (hb hby d3_25) rfl ?_
    refine XS.lconst X1.here hx rfl (hb hby d3_26) ?_
    show Steps p.tables e below (T1.setTop (mkF m 27 #[.val (.ref c0_a), .val (.int 1), .val (.long jam), .second, .val (.long 9223372036854775807), .second] [(.long 0), (.long jam)])) _
    refine XS.lcmp X1.here hx rfl (hb hby d3_27) rfl ?_
    refine XS.ifNo X1.here hx rfl (hb hby d3_28) rfl ((if0 _ _).trans (flt (f3 : ¬ ((lcmpW jam (0 : Int64)) < (0 : Int32)))).1) ?_
    refine XS.lloadN X1.here hx rfl (hb hby d3_31) rfl ?_
    refine XS.lload X1.here hx rfl (hb hby d3_32) rfl ?_
    show Steps p.tables e below (T1.setTop (mkF m 34 #[.val (.ref c0_a), .val (.int 1), .val (.long jam), .second, .val (.long 9223372036854775807), .second] [(.long 9223372036854775807), (.long jam)])) _
    refine XS.lcmp X1.here hx rfl (hb hby d3_34) rfl ?_
    refine XS.ifYes X1.here hx rfl (pc0 := 35) (pc' := 55) rfl (hb hby d3_35) rfl ((if0 _ _).trans (flt (f4 : ¬ ((0 : Int32) < (lcmpW jam (9223372036854775807 : Int64))))).2.2.2) (by decide) (by decide) ?_
    refine XS.aloadN X1.here hx rfl (hb hby d3_55) rfl rfl ?_
    show Steps p.tables e below (T1.setTop (mkF m 56 #[.val (.ref c0_a), .val (.int 1), .val (.long jam), .second, .val (.long 9223372036854775807), .second] [(.ref c0_a)])) _
    refine st3 _ ?_
    refine XS.iloadN X3.here hx rfl (hb hby d3_59) rfl ?_
    refine XS.iconst X3.here hx rfl (hb hby d3_60) ?_
    show Steps p.tables e below (T3.setTop (mkF m 61 #[.val (.ref c0_a), .val (.int 1), .val (.long jam), .second, .val (.long 9223372036854775807), .second] [(.int 1), (.int 1), (.ref c1_a)])) _
    refine XS.isub X3.here hx rfl (hb hby d3_61) rfl ?_
    show Steps p.tables e below (T3.setTop (mkF m 62 #[.val (.ref c0_a), .val (.int 1), .val (.long jam), .second, .val (.long 9223372036854775807), .second] [(.int ((1 : Int32) - (1 : Int32))), (.ref c1_a)])) _
    rw [show ((1 : Int32) - (1 : Int32)) = (0 : Int32) from by decide]
    refine XS.lloadN X3.here hx rfl (hb hby d3_62) rfl ?_
    show Steps p.tables e below (T3.setTop (mkF m 63 #[.val (.ref c0_a), .val (.int 1), .val (.long jam), .second, .val (.long 9223372036854775807), .second] [(.long jam), (.int 0), (.ref c1_a)])) _
    refine st4 _ ?_
    show Steps p.tables e below (T4.setTop (mkF m 66 #[.val (.ref c0_a), .val (.int 1), .val (.long jam), .second, .val (.long 9223372036854775807), .second] [(.ref bx90), (.int 0), (.ref c1_a)])) _
    refine st7 _ ?_
    show Steps p.tables e below (T7.setTop (mkF m 67 #[.val (.ref c0_a), .val (.int 1), .val (.long jam), .second, .val (.long 9223372036854775807), .second] [])) _
    exact X7.returnOut hx Bd.returns (hb hby d3_67) hr
  · show Q3_92 Z c1_a c2_k gx1 h0 n0 _ T7.heap _
    rw [e7]
    exact ⟨bx90, rfl, N7, KK7, Vw7⟩
set_option maxRecDepth 65536 in
set_option maxHeartbeats 40000000 in
theorem sg101_94 {p : Program} {l : Launch} {e : Env} {s : State} {m : MethodId} {below : List Frame} {meth : Method} {c : Code} {T0 : State} {locs : List Loc} {Z : State} {a0 : Array Value} (p0 : Int32) (p1 : Int32) (p2 : Int64) (gq4 : Int32) (gq6 : Int32) (gq7 : Int32) (gq8 : Int32) (jam : Int64) (c0_a : Addr) (c1_a : Addr) (c2_k : ClassId) (gx1 : Value) (a_cache : Addr) {h0 : Heap} {n0 : Nat} (X0 : Stand p l e room_1 s m #[(.int p0), (.int p1), (.long p2)] below meth c T0 locs 2 3) (hx : p.tables.exec = Jvm.exec) (hZ : Z.Warmed39 s.vm) (hw : ∀ d ∈ tables_1, d.before a0 Z = true) (hby : c.code = code) (hml : c.maxLocals = 15) (hown : s.vm.findClass "hexwright/engine/SealedBidsHasBidPinLaw" = some m.cls) (e0 : T0.heap = h0) (N0 : Fr n0 locs) (Z0 : n0 ≤ h0.size) (f1 : F_0 Z h0 c0_a (.ref c1_a)) (f2 : Arv Z h0 c1_a c2_k (.object "java/lang/Long") (2 : Int32) [.null, gx1] .null) (f3 : ¬ ((lcmpW jam (0 : Int64)) < (0 : Int32))) (f4 : ¬ ((0 : Int32) < (lcmpW jam (9223372036854775807 : Int64)))) (f5 : ¬ ((lcmpW jam (-128 : Int64)) < (0 : Int32))) (f6 : S_0 Z h0 (.ref a_cache)) (f7 : OwnAll Z h0 a_cache "java/lang/Long") (f8 : n0 ≤ c1_a) (f9 : Ovr Z c2_k "java/lang/Long") (f10 : E_1 Z h0 c0_a) :
    ∃ (T : State) (h : Heap) (L : List Loc) (bx93 : Addr), Stand p l e room_1 s m #[(.int p0), (.int p1), (.long p2)] below meth c T L 3 4 ∧ T.heap = h ∧ Fr n0 L ∧ Keep h0 h [c1_a] ∧ Arv Z h c1_a c2_k (.object "java/lang/Long") (2 : Int32) [(.ref bx93), gx1] .null ∧ (∀ target, Steps p.tables e below (T.setTop (mkF m 116 #[.val (.int p0), .val (.int p1), .val (.long p2), .second, .val (.int gq4), .val (.int 1), .val (.int gq6), .val (.int gq7), .val (.int gq8), .val (.long jam), .second, .val (.long 9223372036854775807), .second, .val (.ref c0_a), .unset] [])) target → Steps p.tables e below (T0.setTop (mkF m 101 #[.val (.int p0), .val (.int p1), .val (.long p2), .second, .val (.int gq4), .val (.int 1), .val (.int gq6), .val (.int gq7), .val (.int gq8), .val (.long jam), .second, .val (.long 9223372036854775807), .second, .val (.ref c0_a), .unset] [])) target) := by
  -- pc 113: hexwright/engine/SealedBids.bid
  obtain ⟨cq1, kq1, q1a, q1b, q1c⟩ := isOf hZ e0 f10
  obtain ⟨_, _, ⟨T1, L1, k1, n1⟩, -, X1, ⟨Lc1, hQ1, l1, y1, z1⟩, st1⟩ := X0.virtualBack hx (y := M_5) (z := M_5) hown (mvT hZ (tw_14 hw)) (mvT hZ (tw_15 hw)) (notFace_of_selects (args := #[]) (mvT hZ (tw_17 hw))) (mvT hZ (tw_17 hw)) (mvT hZ (tw_16 hw)) (by decide) (backOf (W := 0) (rm3_91 l Z a0 hw [] c0_a jam c1_a c2_k gx1 a_cache h0 n0 Z0 f1 f2 f3 f4 f5 f6 f7 f8 f9) hZ (tw_18 hw) (tw_3 hw) (by decide) (by decide)) q1a q1c (g := (mkF m 113 #[.val (.int p0), .val (.int p1), .val (.long p2), .second, .val (.int gq4), .val (.int 1), .val (.int gq6), .val (.int gq7), .val (.int gq8), .val (.long jam), .second, .val (.long 9223372036854775807), .second, .val (.ref c0_a), .unset] [(.long 9223372036854775807), (.long jam), (.int 1), (.ref c0_a)])) rfl (by rw [hml]; rfl) (Steps.refl _) (argsL := [(.int 1), (.long jam), (.long 9223372036854775807)]) (rest := []) (lenOf pd_5 rfl) rfl (by show 2 * 0 + _ ≤ _; exact Nat.le_of_eq rfl) (hb hby at_113) (fun _ _ => ⟨rfl, e0, (by decide : 2 + 1 ≤ _), (by decide : 3 + 1 ≤ _)⟩)
  dsimp only [Pt.U, Pt.locs, Pt.cells, Pt.slots] at X1 l1 y1 z1 st1 hQ1
  subst l1 y1 z1
  obtain ⟨bx93, rfl, Nq1, K1, o1_0⟩ := hQ1
  have N1 := Fr.app N0 Nq1
  have KK1 : Keep h0 T1.heap [c1_a] := (Keep.refl h0 [c1_a]).trans K1 (fun x hx => (List.mem_cons.mp hx).elim (fun q => q ▸ (Or.inl (List.mem_of_getElem? (i := 0) rfl))) (fun hx => nomatch hx))
  refine ⟨T1, _, _, bx93, (X1.more (by decide) (by decide)), rfl, N1, KK1, o1_0, fun target kt => ?_⟩
  show Steps p.tables e below (T0.setTop (mkF m 101 #[.val (.int p0), .val (.int p1), .val (.long p2), .second, .val (.int gq4), .val (.int 1), .val (.int gq6), .val (.int gq7), .val (.int gq8), .val (.long jam), .second, .val (.long 9223372036854775807), .second, .val (.ref c0_a), .unset] [])) _
  refine XS.iload X0.here hx rfl (hb hby at_101) rfl ?_
  refine XS.ifNo X0.here hx rfl (hb hby at_103) rfl (by decide) ?_
  refine XS.aload X0.here hx rfl (hb hby at_106) rfl rfl ?_
  refine XS.iconst X0.here hx rfl (hb hby at_108) ?_
  refine XS.lload X0.here hx rfl (hb hby at_109) rfl ?_
  show Steps p.tables e below (T0.setTop (mkF m 111 #[.val (.int p0), .val (.int p1), .val (.long p2), .second, .val (.int gq4), .val (.int 1), .val (.int gq6), .val (.int gq7), .val (.int gq8), .val (.long jam), .second, .val (.long 9223372036854775807), .second, .val (.ref c0_a), .unset] [(.long jam), (.int 1), (.ref c0_a)])) _
  refine XS.lload X0.here hx rfl (hb hby at_111) rfl ?_
  show Steps p.tables e below (T0.setTop (mkF m 113 #[.val (.int p0), .val (.int p1), .val (.long p2), .second, .val (.int gq4), .val (.int 1), .val (.int gq6), .val (.int gq7), .val (.int gq8), .val (.long jam), .second, .val (.long 9223372036854775807), .second, .val (.ref c0_a), .unset] [(.long 9223372036854775807), (.long jam), (.int 1), (.ref c0_a)])) _
  refine st1.trans ?_
  show Steps p.tables e below (T1.setTop (mkF m 116 #[.val (.int p0), .val (.int p1), .val (.long p2), .second, .val (.int gq4), .val (.int 1), .val (.int gq6), .val (.int gq7), .val (.int gq8), .val (.long jam), .second, .val (.long 9223372036854775807), .second, .val (.ref c0_a), .unset] [])) _
  exact kt
set_option maxRecDepth 65536 in
set_option maxHeartbeats 40000000 in
theorem rm5_96 (l : Launch) (Z : State) (a0 : Array Value) (hw : ∀ d ∈ tables_1, d.before a0 Z = true) (ws : List Jvm.Cond) (c0_a : Addr) (c1_a : Addr) (c2_k : ClassId) (c3_a : Addr) (gx1 : Value) (h0 : Heap) (n0 : Nat) (Z0 : n0 ≤ h0.size) (f1 : F_0 Z h0 c0_a (.ref c1_a)) (f2 : Arv Z h0 c1_a c2_k (.object "java/lang/Long") (2 : Int32) [(.ref c3_a), gx1] .null) :
    MetFree l M_1 (head1 (Jvm.Cond.code M_1 prog_14_method_4_code 2 (some .boolean) :: ws) R_0_0_0_0) (fun a U => a = #[(.ref c0_a), (.int 1)] ∧ Z.Warmed39 U.vm ∧ U.heap = h0) (fun _ _ _ _ _ => True) (fun _ U o U' => ∃ v L, o = .returned v ∧ QP (some (.int 1)) h0 n0 v U'.heap L ∧ FrameEnd U o U' L R_0_0_0_0.cells R_0_0_0_0.slots) := by
  refine MetFree.of_bodySF (plainFor_of_name pn_hexwright_engine_SealedBids) hisR ?_
  intro p e s m args below meth c s₁ Bd hml0 hP hK
  obtain ⟨rfl, hZ, hh⟩ := hP
  have hx := Bd.exec
  have hby := Bd.bytes
  have hml : c.maxLocals = 2 := hml0
  have hown : s.vm.findClass "hexwright/engine/SealedBids" = some m.cls := findClass_of_methodNamed Bd.named
  have hnm := (name_of_methodNamed Bd.named Bd.method).1
  have X0 : Stand p l e R_0_0_0_0 s m #[(.ref c0_a), (.int 1)] below meth c s₁ [] 0 0 := Stand.of_body Bd
  have e0 : s₁.heap = h0 := by rw [← hh, Bd.state]; rfl
  have N0 := Fr.nil n0
  obtain ⟨T1, X1, e1, st1⟩ := getF X0 hx hZ hown (host := "") (Or.inl (tw_12 hw)) Via.refl e0 f1 (g := (mkF m 1 #[.val (.ref c0_a), .val (.int 1)] [(.ref c0_a)])) rfl rfl (hb hby d5_1)
  have va2 := f2
  obtain ⟨cl2, Ar2, -, S2, -, H2, -⟩ := va2
  have hin2 : ¬ ((0 : Int32) < 0 ∨ cl2.slots.size ≤ ((0 : Int32)).toNatClampNeg) := inb_of S2 ⟨by decide, by decide⟩
  have hat2 : cl2.slots[((0 : Int32)).toNatClampNeg]? = some (.ref c3_a) := H2 _ (Nat.lt_of_not_le fun y => hin2 (Or.inr y))
  obtain ⟨fs, hr, hrun, hended, hW, hsame⟩ := X1.leave (v := (some (.int 1))) (fun h => by rw [Bd.returns] at h; cases h)
  refine ⟨_, _, castTop (ef5_RI m c0_a (1 : Int32)) ?_, hrun, hended, _, _, rfl, ?_, ⟨_, rfl⟩, hW, hsame.mono (by decide) (by decide)⟩
  · show Steps p.tables e below (s₁.setTop (mkF m 0 #[.val (.ref c0_a), .val (.int 1)] [])) _
    refine XS.aloadN X0.here hx rfl (hb hby d5_0) rfl rfl ?_
    show Steps p.tables e below (s₁.setTop (mkF m 1 #[.val (.ref c0_a), .val (.int 1)] [(.ref c0_a)])) _
    refine st1 _ ?_
    refine XS.iloadN X1.here hx rfl (hb hby d5_4) rfl ?_
    refine XS.iconst X1.here hx rfl (hb hby d5_5) ?_
    show Steps p.tables e below (T1.setTop (mkF m 6 #[.val (.ref c0_a), .val (.int 1)] [(.int 1), (.int 1), (.ref c1_a)])) _
    refine XS.isub X1.here hx rfl (hb hby d5_6) rfl ?_
    show Steps p.tables e below (T1.setTop (mkF m 7 #[.val (.ref c0_a), .val (.int 1)] [(.int ((1 : Int32) - (1 : Int32))), (.ref c1_a)])) _
    rw [show ((1 : Int32) - (1 : Int32)) = (0 : Int32) from by decide]
    show Steps p.tables e below (T1.setTop (mkF m 7 #[.val (.ref c0_a), .val (.int 1)] [(.int 0), (.ref c1_a)])) _
    refine X1.aaload hx (j := (0 : Int32)) (v := (.ref c3_a)) (by rw [e1]; exact Ar2.1) (State.isArrayOf_alike hZ.alike Ar2.2.1) rfl Ar2.2.2 hin2 hat2 (g := (mkF m 7 #[.val (.ref c0_a), .val (.int 1)] [(.int 0), (.ref c1_a)])) rfl rfl (hb hby d5_7) _ ?_
    refine XS.ifnullNo X1.here hx rfl (hb hby d5_8) rfl ?_
    refine XS.iconst X1.here hx rfl (hb hby d5_11) ?_
    refine XS.goto X1.here hx rfl (pc0 := 12) (pc' := 16) rfl (hb hby d5_12) (by decide) (by decide) ?_
    show Steps p.tables e below (T1.setTop (mkF m 16 #[.val (.ref c0_a), .val (.int 1)] [(.int 1)])) _
    exact retN X1 hx (t := .boolean) Bd.returns (by simp) (hb hby d5_16) hr
  · show QP (some (.int 1)) h0 n0 _ T1.heap _
    rw [e1]
    exact ⟨rfl, N0, rfl⟩
set_option maxRecDepth 65536 in
set_option maxHeartbeats 40000000 in
theorem sg161_97 {p : Program} {l : Launch} {e : Env} {s : State} {m : MethodId} {below : List Frame} {meth : Method} {c : Code} {T0 : State} {locs : List Loc} {Z : State} {a0 : Array Value} (p0 : Int32) (p1 : Int32) (p2 : Int64) (gq4 : Int32) (gq6 : Int32) (gq7 : Int32) (gq8 : Int32) (jam : Int64) (gq11 : Int64) (c0_a : Addr) (c1_a : Addr) (c2_k : ClassId) (c3_a : Addr) (gx1 : Value) {h0 : Heap} {n0 : Nat} (X0 : Stand p l e room_1 s m #[(.int p0), (.int p1), (.long p2)] below meth c T0 locs 6 7) (hx : p.tables.exec = Jvm.exec) (hZ : Z.Warmed39 s.vm) (hw : ∀ d ∈ tables_1, d.before a0 Z = true) (hby : c.code = code) (hml : c.maxLocals = 15) (hown : s.vm.findClass "hexwright/engine/SealedBidsHasBidPinLaw" = some m.cls) (e0 : T0.heap = h0) (N0 : Fr n0 locs) (Z0 : n0 ≤ h0.size) (f1 : F_0 Z h0 c0_a (.ref c1_a)) (f2 : Arv Z h0 c1_a c2_k (.object "java/lang/Long") (2 : Int32) [(.ref c3_a), gx1] .null) (f3 : E_1 Z h0 c0_a) :
    ∃ (T : State) (L : List Loc), Stand p l e room_1 s m #[(.int p0), (.int p1), (.long p2)] below meth c T L 6 7 ∧ T.heap = h0 ∧ Fr n0 L ∧ (∀ target, Steps p.tables e below (T.setTop (mkF m 179 #[.val (.int p0), .val (.int p1), .val (.long p2), .second, .val (.int gq4), .val (.int 1), .val (.int gq6), .val (.int gq7), .val (.int gq8), .val (.long jam), .second, .val (.long gq11), .second, .val (.ref c0_a), .val (.int 1)] [])) target → Steps p.tables e below (T0.setTop (mkF m 161 #[.val (.int p0), .val (.int p1), .val (.long p2), .second, .val (.int gq4), .val (.int 1), .val (.int gq6), .val (.int gq7), .val (.int gq8), .val (.long jam), .second, .val (.long gq11), .second, .val (.ref c0_a), .unset] [])) target) := by
  -- pc 164: hexwright/engine/SealedBids.hasBid
  obtain ⟨cq1, kq1, q1a, q1b, q1c⟩ := isOf hZ e0 f3
  obtain ⟨_, _, ⟨T1, L1, k1, n1⟩, -, X1, ⟨Lc1, hQ1, l1, y1, z1⟩, st1⟩ := X0.virtualBack hx (y := M_1) (z := M_1) hown (mvT hZ (tw_28 hw)) (mvT hZ (tw_29 hw)) (notFace_of_selects (args := #[]) (mvT hZ (tw_31 hw))) (mvT hZ (tw_31 hw)) (mvT hZ (tw_30 hw)) (by decide) (backOf (W := 0) (rm5_96 l Z a0 hw [] c0_a c1_a c2_k c3_a gx1 h0 n0 Z0 f1 f2) hZ (tw_32 hw) (tw_3 hw) (by decide) (by decide)) q1a q1c (g := (mkF m 164 #[.val (.int p0), .val (.int p1), .val (.long p2), .second, .val (.int gq4), .val (.int 1), .val (.int gq6), .val (.int gq7), .val (.int gq8), .val (.long jam), .second, .val (.long gq11), .second, .val (.ref c0_a), .unset] [(.int 1), (.ref c0_a)])) rfl (by rw [hml]; rfl) (Steps.refl _) (argsL := [(.int 1)]) (rest := []) (lenOf pd_1 rfl) rfl (by show 2 * 0 + _ ≤ _; exact Nat.le_of_eq rfl) (hb hby at_164) (fun _ _ => ⟨rfl, e0, (by decide : 6 + 0 ≤ _), (by decide : 7 + 0 ≤ _)⟩)
  dsimp only [Pt.U, Pt.locs, Pt.cells, Pt.slots] at X1 l1 y1 z1 st1 hQ1
  subst l1 y1 z1
  obtain ⟨rfl, Nq1, e1⟩ := hQ1
  have N1 := Fr.app N0 Nq1
  refine ⟨T1, _, X1, e1, N1, fun target kt => ?_⟩
  show Steps p.tables e below (T0.setTop (mkF m 161 #[.val (.int p0), .val (.int p1), .val (.long p2), .second, .val (.int gq4), .val (.int 1), .val (.int gq6), .val (.int gq7), .val (.int gq8), .val (.long jam), .second, .val (.long gq11), .second, .val (.ref c0_a), .unset] [])) _
  refine XS.aload X0.here hx rfl (hb hby at_161) rfl rfl ?_
  refine XS.iconst X0.here hx rfl (hb hby at_163) ?_
  show Steps p.tables e below (T0.setTop (mkF m 164 #[.val (.int p0), .val (.int p1), .val (.long p2), .second, .val (.int gq4), .val (.int 1), .val (.int gq6), .val (.int gq7), .val (.int gq8), .val (.long jam), .second, .val (.long gq11), .second, .val (.ref c0_a), .unset] [(.int 1), (.ref c0_a)])) _
  refine st1.trans ?_
  refine XS.iload X1.here hx rfl (hb hby at_167) rfl ?_
  refine XS.icmpNo X1.here hx rfl (hb hby at_169) rfl (by decide) ?_
  refine XS.iconst X1.here hx rfl (hb hby at_172) ?_
  refine XS.goto X1.here hx rfl (pc0 := 173) (pc' := 177) rfl (hb hby at_173) (by decide) (by decide) ?_
  show Steps p.tables e below (T1.setTop (mkF m 177 #[.val (.int p0), .val (.int p1), .val (.long p2), .second, .val (.int gq4), .val (.int 1), .val (.int gq6), .val (.int gq7), .val (.int gq8), .val (.long jam), .second, .val (.long gq11), .second, .val (.ref c0_a), .unset] [(.int 1)])) _
  refine XS.istore X1.here hx rfl (hb hby at_177) rfl (l' := #[.val (.int p0), .val (.int p1), .val (.long p2), .second, .val (.int gq4), .val (.int 1), .val (.int gq6), .val (.int gq7), .val (.int gq8), .val (.long jam), .second, .val (.long gq11), .second, .val (.ref c0_a), .val (.int 1)]) rfl ?_
  show Steps p.tables e below (T1.setTop (mkF m 179 #[.val (.int p0), .val (.int p1), .val (.long p2), .second, .val (.int gq4), .val (.int 1), .val (.int gq6), .val (.int gq7), .val (.int gq8), .val (.long jam), .second, .val (.long gq11), .second, .val (.ref c0_a), .val (.int 1)] [])) _
  exact kt
set_option maxRecDepth 65536 in
set_option maxHeartbeats 40000000 in
theorem rm0_98 (l : Launch) (Z : State) (a0 : Array Value) (hw : ∀ d ∈ tables_1, d.before a0 Z = true) (ws : List Jvm.Cond) (p0 : Int32) (p1 : Int32) (p2 : Int64) (jam : Int64) (a_cache : Addr) (h0 : Heap) (n0 : Nat) (Z0 : n0 ≤ h0.size) (f1 : (p0 &&& (3 : Int32)) = (1 : Int32)) (f2 : ¬ ((p1 &&& (1 : Int32)) = (0 : Int32))) (f3 : (p1 &&& (2 : Int32)) = (0 : Int32)) (f4 : (p2 &&& (9223372036854775807 : Int64)) = jam) (f5 : ¬ ((lcmpW jam (0 : Int64)) < (0 : Int32))) (f6 : ¬ ((0 : Int32) < (lcmpW jam (9223372036854775807 : Int64)))) (f7 : ¬ ((lcmpW jam (-128 : Int64)) < (0 : Int32))) (f8 : S_0 Z h0 (.ref a_cache)) (f9 : OwnAll Z h0 a_cache "java/lang/Long") :
    MetFree l x (head1 (Jvm.Cond.code x code maxLocals ret :: ws) room_1) (fun a U => a = #[(.int p0), (.int p1), (.long p2)] ∧ Z.Warmed39 U.vm ∧ U.heap = h0) (fun _ _ _ _ _ => True) (fun _ U o U' => ∃ v L, o = .returned v ∧ QT n0 v U'.heap L ∧ FrameEnd U o U' L room_1.cells room_1.slots) := by
  refine MetFree.of_bodySF (plainFor_of_name pn_hexwright_engine_SealedBidsHasBidPinLaw) hisR ?_
  intro p e s m args below meth c s₁ Bd hml0 hP hK
  obtain ⟨rfl, hZ, hh⟩ := hP
  have hx := Bd.exec
  have hby := Bd.bytes
  have hml : c.maxLocals = 15 := hml0
  have hown : s.vm.findClass "hexwright/engine/SealedBidsHasBidPinLaw" = some m.cls := findClass_of_methodNamed Bd.named
  have hnm := (name_of_methodNamed Bd.named Bd.method).1
  have X0 : Stand p l e room_1 s m #[(.int p0), (.int p1), (.long p2)] below meth c s₁ [] 0 0 := Stand.of_body Bd
  have e0 : s₁.heap = h0 := by rw [← hh, Bd.state]; rfl
  have N0 := Fr.nil n0
  obtain ⟨T1, L1, X1, e1, N1, st1⟩ := sg7_27 p0 p1 p2 (2 : Int32) X0 hx hZ hw hby hml hown e0 N0 Z0 f2
  obtain ⟨T2, L2, X2, e2, N2, st2⟩ := sg20_49 p0 p1 p2 (1 : Int32) X1 hx hZ hw hby hml hown e1 N1 Z0 f3
  obtain ⟨T3, L3, X3, e3, N3, st3⟩ := sg39_50 p0 p1 p2 (1 : Int32) (0 : Int32) X2 hx hZ hw hby hml hown e2 N2 Z0 
  obtain ⟨T4, L4, X4, e4, N4, st4⟩ := sg58_51 p0 p1 p2 (1 : Int32) (0 : Int32) (0 : Int32) X3 hx hZ hw hby hml hown e3 N3 Z0 
  obtain ⟨T5, L5, X5, e5, N5, st5⟩ := sg78_5 p0 p1 p2 (2 : Int32) (1 : Int32) (0 : Int32) (0 : Int32) (0 : Int32) jam X4 hx hZ hw hby hml hown e4 N4 Z0 f4
  obtain ⟨T6, h6, L6, b87, b88, kc89, X6, e6, N6, K6, le_b87, le_b88, o6_0, o6_1, o6_2, o6_3, o6_4, st6⟩ := sg90_59 p0 p1 p2 (1 : Int32) (0 : Int32) (0 : Int32) (0 : Int32) jam (9223372036854775807 : Int64) X5 hx hZ hw hby hml hown e5 N5 Z0 
  have sz_b87 : h0.size ≤ b87 := Nat.le_trans (Nat.le_refl _) le_b87
  have g_b87 : n0 ≤ b87 := Nat.le_trans Z0 sz_b87
  have sz_b88 : h0.size ≤ b88 := Nat.le_trans (Nat.le_refl _) le_b88
  have g_b88 : n0 ≤ b88 := Nat.le_trans Z0 sz_b88
  have KK6 : Keep h0 h6 [] := (Keep.refl h0 []).trans K6 (fun x hx => nomatch hx)
  have u8 : S_0 Z h6 (.ref a_cache) := own_sta_keep f8 K6 (fun _ q => nomatch q)
  have u9 : OwnAll Z h6 a_cache "java/lang/Long" := own_all_keep f9 K6 List.not_mem_nil
  obtain ⟨T7, h7, L7, bx95, X7, e7, N7, K7, o7_0, st7⟩ := sg101_94 p0 p1 p2 (2 : Int32) (0 : Int32) (0 : Int32) (0 : Int32) jam b87 b88 kc89 .null a_cache X6 hx hZ hw hby hml hown e6 N6 (Nat.le_trans Z0 KK6.1) o6_1 o6_2 f5 f6 f7 u8 u9 g_b88 o6_3 o6_0
  have KK7 : Keep h0 h7 [] := KK6.trans K7 (fun x hx => (List.mem_cons.mp hx).elim (fun q => q ▸ (Or.inr sz_b88)) (fun hx => nomatch hx))
  obtain ⟨T10, L10, X10, e10, N10, st10⟩ := sg116_64 p0 p1 p2 (2 : Int32) (1 : Int32) (0 : Int32) (0 : Int32) jam b87 X7 hx hZ hw hby hml hown e7 N7 (Nat.le_trans Z0 KK7.1) 
  obtain ⟨T11, L11, X11, e11, N11, st11⟩ := sg131_65 p0 p1 p2 (2 : Int32) (1 : Int32) (0 : Int32) (0 : Int32) jam b87 X10 hx hZ hw hby hml hown e10 N10 (Nat.le_trans Z0 KK7.1) 
  obtain ⟨T12, L12, X12, e12, N12, st12⟩ := sg146_66 p0 p1 p2 (2 : Int32) (1 : Int32) (0 : Int32) (0 : Int32) jam b87 X11 hx hZ hw hby hml hown e11 N11 (Nat.le_trans Z0 KK7.1) 
  have u14 : F_0 Z h7 b87 (.ref b88) := Fld.keep o6_1 K7 (own_notin o6_4 List.not_mem_nil)
  have u15 : E_1 Z h7 b87 := Exa.keep o6_0 K7
  obtain ⟨T13, L13, X13, e13, N13, st13⟩ := sg161_97 p0 p1 p2 (2 : Int32) (0 : Int32) (0 : Int32) (0 : Int32) jam (9223372036854775807 : Int64) b87 b88 kc89 bx95 .null X12 hx hZ hw hby hml hown e12 N12 (Nat.le_trans Z0 KK7.1) u14 o7_0 u15
  obtain ⟨T16, L16, X16, e16, N16, st16⟩ := sg179_70 p0 p1 p2 (1 : Int32) (0 : Int32) (0 : Int32) jam (9223372036854775807 : Int64) b87 b88 kc89 (.ref bx95) X13 hx hZ hw hby hml hown e13 N13 (Nat.le_trans Z0 KK7.1) u14 o7_0 u15
  obtain ⟨T17, L17, X17, e17, N17, st17⟩ := sg208_71 p0 p1 p2 (1 : Int32) (0 : Int32) (0 : Int32) jam (9223372036854775807 : Int64) b87 X16 hx hZ hw hby hml hown e16 N16 (Nat.le_trans Z0 KK7.1) 
  obtain ⟨T18, L18, X18, e18, N18, st18⟩ := sg237_72 p0 p1 p2 (1 : Int32) (0 : Int32) (0 : Int32) jam (9223372036854775807 : Int64) b87 X17 hx hZ hw hby hml hown e17 N17 (Nat.le_trans Z0 KK7.1) 
  obtain ⟨fs, hr, hrun, hended, hW, hsame⟩ := X18.leave (v := (some (.int 1))) (fun h => by rw [Bd.returns] at h; cases h)
  refine ⟨_, _, castTop (ef0_IIJ m p0 p1 p2) ?_, hrun, hended, _, _, rfl, ?_, ⟨_, rfl⟩, hW, hsame.mono (by decide) (by decide)⟩
  · show Steps p.tables e below (s₁.setTop (mkF m 0 #[.val (.int p0), .val (.int p1), .val (.long p2), .second, .unset, .unset, .unset, .unset, .unset, .unset, .unset, .unset, .unset, .unset, .unset] [])) _
    refine XS.iloadN X0.here hx rfl (hb hby at_0) rfl ?_
    refine XS.iconst X0.here hx rfl (hb hby at_1) ?_
    show Steps p.tables e below (s₁.setTop (mkF m 2 #[.val (.int p0), .val (.int p1), .val (.long p2), .second, .unset, .unset, .unset, .unset, .unset, .unset, .unset, .unset, .unset, .unset, .unset] [(.int 3), (.int p0)])) _
    refine XS.iand X0.here hx rfl (hb hby at_2) rfl ?_
    show Steps p.tables e below (s₁.setTop (mkF m 3 #[.val (.int p0), .val (.int p1), .val (.long p2), .second, .unset, .unset, .unset, .unset, .unset, .unset, .unset, .unset, .unset, .unset, .unset] [(.int (p0 &&& (3 : Int32)))])) _
    rw [f1]
    refine XS.iconst X0.here hx rfl (hb hby at_3) ?_
    show Steps p.tables e below (s₁.setTop (mkF m 4 #[.val (.int p0), .val (.int p1), .val (.long p2), .second, .unset, .unset, .unset, .unset, .unset, .unset, .unset, .unset, .unset, .unset, .unset] [(.int 1), (.int 1)])) _
    refine XS.iadd X0.here hx rfl (hb hby at_4) rfl ?_
    show Steps p.tables e below (s₁.setTop (mkF m 5 #[.val (.int p0), .val (.int p1), .val (.long p2), .second, .unset, .unset, .unset, .unset, .unset, .unset, .unset, .unset, .unset, .unset, .unset] [(.int ((1 : Int32) + (1 : Int32)))])) _
    rw [show ((1 : Int32) + (1 : Int32)) = (2 : Int32) from by decide]
    refine XS.istore X0.here hx rfl (hb hby at_5) rfl (l' := #[.val (.int p0), .val (.int p1), .val (.long p2), .second, .val (.int 2), .unset, .unset, .unset, .unset, .unset, .unset, .unset, .unset, .unset, .unset]) rfl ?_
    show Steps p.tables e below (s₁.setTop (mkF m 7 #[.val (.int p0), .val (.int p1), .val (.long p2), .second, .val (.int 2), .unset, .unset, .unset, .unset, .unset, .unset, .unset, .unset, .unset, .unset] [])) _
    refine st1 _ ?_
    show Steps p.tables e below (T1.setTop (mkF m 20 #[.val (.int p0), .val (.int p1), .val (.long p2), .second, .val (.int 2), .val (.int 1), .unset, .unset, .unset, .unset, .unset, .unset, .unset, .unset, .unset] [])) _
    refine st2 _ ?_
    show Steps p.tables e below (T2.setTop (mkF m 39 #[.val (.int p0), .val (.int p1), .val (.long p2), .second, .val (.int 2), .val (.int 1), .val (.int 0), .unset, .unset, .unset, .unset, .unset, .unset, .unset, .unset] [])) _
    refine st3 _ ?_
    show Steps p.tables e below (T3.setTop (mkF m 58 #[.val (.int p0), .val (.int p1), .val (.long p2), .second, .val (.int 2), .val (.int 1), .val (.int 0), .val (.int 0), .unset, .unset, .unset, .unset, .unset, .unset, .unset] [])) _
    refine st4 _ ?_
    show Steps p.tables e below (T4.setTop (mkF m 78 #[.val (.int p0), .val (.int p1), .val (.long p2), .second, .val (.int 2), .val (.int 1), .val (.int 0), .val (.int 0), .val (.int 0), .unset, .unset, .unset, .unset, .unset, .unset] [])) _
    refine st5 _ ?_
    show Steps p.tables e below (T5.setTop (mkF m 90 #[.val (.int p0), .val (.int p1), .val (.long p2), .second, .val (.int 2), .val (.int 1), .val (.int 0), .val (.int 0), .val (.int 0), .val (.long jam), .second, .val (.long 9223372036854775807), .second, .unset, .unset] [])) _
    refine st6 _ ?_
    show Steps p.tables e below (T6.setTop (mkF m 101 #[.val (.int p0), .val (.int p1), .val (.long p2), .second, .val (.int 2), .val (.int 1), .val (.int 0), .val (.int 0), .val (.int 0), .val (.long jam), .second, .val (.long 9223372036854775807), .second, .val (.ref b87), .unset] [])) _
    refine st7 _ ?_
    show Steps p.tables e below (T7.setTop (mkF m 116 #[.val (.int p0), .val (.int p1), .val (.long p2), .second, .val (.int 2), .val (.int 1), .val (.int 0), .val (.int 0), .val (.int 0), .val (.long jam), .second, .val (.long 9223372036854775807), .second, .val (.ref b87), .unset] [])) _
    refine st10 _ ?_
    show Steps p.tables e below (T10.setTop (mkF m 131 #[.val (.int p0), .val (.int p1), .val (.long p2), .second, .val (.int 2), .val (.int 1), .val (.int 0), .val (.int 0), .val (.int 0), .val (.long jam), .second, .val (.long 9223372036854775807), .second, .val (.ref b87), .unset] [])) _
    refine st11 _ ?_
    show Steps p.tables e below (T11.setTop (mkF m 146 #[.val (.int p0), .val (.int p1), .val (.long p2), .second, .val (.int 2), .val (.int 1), .val (.int 0), .val (.int 0), .val (.int 0), .val (.long jam), .second, .val (.long 9223372036854775807), .second, .val (.ref b87), .unset] [])) _
    refine st12 _ ?_
    show Steps p.tables e below (T12.setTop (mkF m 161 #[.val (.int p0), .val (.int p1), .val (.long p2), .second, .val (.int 2), .val (.int 1), .val (.int 0), .val (.int 0), .val (.int 0), .val (.long jam), .second, .val (.long 9223372036854775807), .second, .val (.ref b87), .unset] [])) _
    refine st13 _ ?_
    show Steps p.tables e below (T13.setTop (mkF m 179 #[.val (.int p0), .val (.int p1), .val (.long p2), .second, .val (.int 2), .val (.int 1), .val (.int 0), .val (.int 0), .val (.int 0), .val (.long jam), .second, .val (.long 9223372036854775807), .second, .val (.ref b87), .val (.int 1)] [])) _
    refine st16 _ ?_
    show Steps p.tables e below (T16.setTop (mkF m 208 #[.val (.int p0), .val (.int p1), .val (.long p2), .second, .val (.int 2), .val (.int 1), .val (.int 0), .val (.int 0), .val (.int 0), .val (.long jam), .second, .val (.long 9223372036854775807), .second, .val (.ref b87), .val (.int 1)] [])) _
    refine st17 _ ?_
    show Steps p.tables e below (T17.setTop (mkF m 237 #[.val (.int p0), .val (.int p1), .val (.long p2), .second, .val (.int 2), .val (.int 1), .val (.int 0), .val (.int 0), .val (.int 0), .val (.long jam), .second, .val (.long 9223372036854775807), .second, .val (.ref b87), .val (.int 1)] [])) _
    refine st18 _ ?_
    refine XS.iload X18.here hx rfl (hb hby at_266) rfl ?_
    show Steps p.tables e below (T18.setTop (mkF m 268 #[.val (.int p0), .val (.int p1), .val (.long p2), .second, .val (.int 2), .val (.int 1), .val (.int 0), .val (.int 0), .val (.int 0), .val (.long jam), .second, .val (.long 9223372036854775807), .second, .val (.ref b87), .val (.int 1)] [(.int 1)])) _
    exact retN X18 hx (t := .boolean) Bd.returns (by simp) (hb hby at_268) hr
  · show QT n0 _ T18.heap _
    rw [e18]
    exact ⟨rfl, N18⟩
set_option maxRecDepth 65536 in
set_option maxHeartbeats 40000000 in
theorem rm0_104 (l : Launch) (Z : State) (a0 : Array Value) (hw : ∀ d ∈ tables_1, d.before a0 Z = true) (ws : List Jvm.Cond) (p0 : Int32) (p1 : Int32) (p2 : Int64) (jam : Int64) (a_cache : Addr) (h0 : Heap) (n0 : Nat) (Z0 : n0 ≤ h0.size) (f1 : (p0 &&& (3 : Int32)) = (1 : Int32)) (f2 : ¬ ((p1 &&& (1 : Int32)) = (0 : Int32))) (f3 : ¬ ((p1 &&& (2 : Int32)) = (0 : Int32))) (f4 : (p2 &&& (9223372036854775807 : Int64)) = jam) (f5 : ¬ ((lcmpW jam (0 : Int64)) < (0 : Int32))) (f6 : ¬ ((0 : Int32) < (lcmpW jam (9223372036854775807 : Int64)))) (f7 : ¬ ((lcmpW jam (-128 : Int64)) < (0 : Int32))) (f8 : S_0 Z h0 (.ref a_cache)) (f9 : OwnAll Z h0 a_cache "java/lang/Long") (f10 : E_0 Z h0 a_cache) :
    MetFree l x (head1 (Jvm.Cond.code x code maxLocals ret :: ws) room_1) (fun a U => a = #[(.int p0), (.int p1), (.long p2)] ∧ Z.Warmed39 U.vm ∧ U.heap = h0) (fun _ _ _ _ _ => True) (fun _ U o U' => ∃ v L, o = .returned v ∧ QT n0 v U'.heap L ∧ FrameEnd U o U' L room_1.cells room_1.slots) := by
  refine MetFree.of_bodySF (plainFor_of_name pn_hexwright_engine_SealedBidsHasBidPinLaw) hisR ?_
  intro p e s m args below meth c s₁ Bd hml0 hP hK
  obtain ⟨rfl, hZ, hh⟩ := hP
  have hx := Bd.exec
  have hby := Bd.bytes
  have hml : c.maxLocals = 15 := hml0
  have hown : s.vm.findClass "hexwright/engine/SealedBidsHasBidPinLaw" = some m.cls := findClass_of_methodNamed Bd.named
  have hnm := (name_of_methodNamed Bd.named Bd.method).1
  have X0 : Stand p l e room_1 s m #[(.int p0), (.int p1), (.long p2)] below meth c s₁ [] 0 0 := Stand.of_body Bd
  have e0 : s₁.heap = h0 := by rw [← hh, Bd.state]; rfl
  have N0 := Fr.nil n0
  obtain ⟨T1, L1, X1, e1, N1, st1⟩ := sg7_27 p0 p1 p2 (2 : Int32) X0 hx hZ hw hby hml hown e0 N0 Z0 f2
  obtain ⟨T2, L2, X2, e2, N2, st2⟩ := sg20_74 p0 p1 p2 (1 : Int32) X1 hx hZ hw hby hml hown e1 N1 Z0 f3
  obtain ⟨T3, L3, X3, e3, N3, st3⟩ := sg39_50 p0 p1 p2 (1 : Int32) (1 : Int32) X2 hx hZ hw hby hml hown e2 N2 Z0 
  obtain ⟨T4, L4, X4, e4, N4, st4⟩ := sg58_51 p0 p1 p2 (1 : Int32) (1 : Int32) (0 : Int32) X3 hx hZ hw hby hml hown e3 N3 Z0 
  obtain ⟨T5, L5, X5, e5, N5, st5⟩ := sg78_5 p0 p1 p2 (2 : Int32) (1 : Int32) (1 : Int32) (0 : Int32) (0 : Int32) jam X4 hx hZ hw hby hml hown e4 N4 Z0 f4
  obtain ⟨T6, h6, L6, b99, b100, kc101, X6, e6, N6, K6, le_b99, le_b100, o6_0, o6_1, o6_2, o6_3, o6_4, st6⟩ := sg90_59 p0 p1 p2 (1 : Int32) (1 : Int32) (0 : Int32) (0 : Int32) jam (9223372036854775807 : Int64) X5 hx hZ hw hby hml hown e5 N5 Z0 
  have sz_b99 : h0.size ≤ b99 := Nat.le_trans (Nat.le_refl _) le_b99
  have g_b99 : n0 ≤ b99 := Nat.le_trans Z0 sz_b99
  have sz_b100 : h0.size ≤ b100 := Nat.le_trans (Nat.le_refl _) le_b100
  have g_b100 : n0 ≤ b100 := Nat.le_trans Z0 sz_b100
  have KK6 : Keep h0 h6 [] := (Keep.refl h0 []).trans K6 (fun x hx => nomatch hx)
  have u8 : S_0 Z h6 (.ref a_cache) := own_sta_keep f8 K6 (fun _ q => nomatch q)
  have u9 : OwnAll Z h6 a_cache "java/lang/Long" := own_all_keep f9 K6 List.not_mem_nil
  obtain ⟨T7, h7, L7, bx102, X7, e7, N7, K7, o7_0, st7⟩ := sg101_94 p0 p1 p2 (2 : Int32) (1 : Int32) (0 : Int32) (0 : Int32) jam b99 b100 kc101 .null a_cache X6 hx hZ hw hby hml hown e6 N6 (Nat.le_trans Z0 KK6.1) o6_1 o6_2 f5 f6 f7 u8 u9 g_b100 o6_3 o6_0
  have KK7 : Keep h0 h7 [] := KK6.trans K7 (fun x hx => (List.mem_cons.mp hx).elim (fun q => q ▸ (Or.inr sz_b100)) (fun hx => nomatch hx))
  have u11 : F_0 Z h7 b99 (.ref b100) := Fld.keep o6_1 K7 (own_notin o6_4 List.not_mem_nil)
  have u12 : S_0 Z h7 (.ref a_cache) := own_sta_keep u8 K7 (own_ns (Arv.nostat o6_2) (fun _ q => nomatch q))
  have ne13 : a_cache ≠ b100 := Nat.ne_of_lt (Nat.lt_of_lt_of_le (Exa.lt f10) le_b100)
  have u14 : OwnAll Z h7 a_cache "java/lang/Long" := own_all_keep u9 K7 (own_notin ne13 List.not_mem_nil)
  have u15 : E_1 Z h7 b99 := Exa.keep o6_0 K7
  obtain ⟨T10, h10, L10, bx103, X10, e10, N10, K10, o10_0, st10⟩ := sg116_82 p0 p1 p2 (2 : Int32) (1 : Int32) (0 : Int32) (0 : Int32) jam b99 b100 kc101 (.ref bx102) a_cache X7 hx hZ hw hby hml hown e7 N7 (Nat.le_trans Z0 KK7.1) u11 o7_0 f5 f6 f7 u12 u14 g_b100 o6_3 u15
  have KK10 : Keep h0 h10 [] := KK7.trans K10 (fun x hx => (List.mem_cons.mp hx).elim (fun q => q ▸ (Or.inr sz_b100)) (fun hx => nomatch hx))
  obtain ⟨T16, L16, X16, e16, N16, st16⟩ := sg131_65 p0 p1 p2 (2 : Int32) (1 : Int32) (1 : Int32) (0 : Int32) jam b99 X10 hx hZ hw hby hml hown e10 N10 (Nat.le_trans Z0 KK10.1) 
  obtain ⟨T17, L17, X17, e17, N17, st17⟩ := sg146_66 p0 p1 p2 (2 : Int32) (1 : Int32) (1 : Int32) (0 : Int32) jam b99 X16 hx hZ hw hby hml hown e16 N16 (Nat.le_trans Z0 KK10.1) 
  have u19 : F_0 Z h10 b99 (.ref b100) := Fld.keep u11 K10 (own_notin o6_4 List.not_mem_nil)
  have u20 : E_1 Z h10 b99 := Exa.keep u15 K10
  obtain ⟨T18, L18, X18, e18, N18, st18⟩ := sg161_97 p0 p1 p2 (2 : Int32) (1 : Int32) (0 : Int32) (0 : Int32) jam (9223372036854775807 : Int64) b99 b100 kc101 bx102 (.ref bx103) X17 hx hZ hw hby hml hown e17 N17 (Nat.le_trans Z0 KK10.1) u19 o10_0 u20
  obtain ⟨T21, L21, X21, e21, N21, st21⟩ := sg179_85 p0 p1 p2 (1 : Int32) (0 : Int32) (0 : Int32) jam (9223372036854775807 : Int64) b99 b100 kc101 (.ref bx102) bx103 X18 hx hZ hw hby hml hown e18 N18 (Nat.le_trans Z0 KK10.1) u19 o10_0 u20
  obtain ⟨T22, L22, X22, e22, N22, st22⟩ := sg208_71 p0 p1 p2 (1 : Int32) (1 : Int32) (0 : Int32) jam (9223372036854775807 : Int64) b99 X21 hx hZ hw hby hml hown e21 N21 (Nat.le_trans Z0 KK10.1) 
  obtain ⟨T23, L23, X23, e23, N23, st23⟩ := sg237_72 p0 p1 p2 (1 : Int32) (1 : Int32) (0 : Int32) jam (9223372036854775807 : Int64) b99 X22 hx hZ hw hby hml hown e22 N22 (Nat.le_trans Z0 KK10.1) 
  obtain ⟨fs, hr, hrun, hended, hW, hsame⟩ := X23.leave (v := (some (.int 1))) (fun h => by rw [Bd.returns] at h; cases h)
  refine ⟨_, _, castTop (ef0_IIJ m p0 p1 p2) ?_, hrun, hended, _, _, rfl, ?_, ⟨_, rfl⟩, hW, hsame.mono (by decide) (by decide)⟩
  · show Steps p.tables e below (s₁.setTop (mkF m 0 #[.val (.int p0), .val (.int p1), .val (.long p2), .second, .unset, .unset, .unset, .unset, .unset, .unset, .unset, .unset, .unset, .unset, .unset] [])) _
    refine XS.iloadN X0.here hx rfl (hb hby at_0) rfl ?_
    refine XS.iconst X0.here hx rfl (hb hby at_1) ?_
    show Steps p.tables e below (s₁.setTop (mkF m 2 #[.val (.int p0), .val (.int p1), .val (.long p2), .second, .unset, .unset, .unset, .unset, .unset, .unset, .unset, .unset, .unset, .unset, .unset] [(.int 3), (.int p0)])) _
    refine XS.iand X0.here hx rfl (hb hby at_2) rfl ?_
    show Steps p.tables e below (s₁.setTop (mkF m 3 #[.val (.int p0), .val (.int p1), .val (.long p2), .second, .unset, .unset, .unset, .unset, .unset, .unset, .unset, .unset, .unset, .unset, .unset] [(.int (p0 &&& (3 : Int32)))])) _
    rw [f1]
    refine XS.iconst X0.here hx rfl (hb hby at_3) ?_
    show Steps p.tables e below (s₁.setTop (mkF m 4 #[.val (.int p0), .val (.int p1), .val (.long p2), .second, .unset, .unset, .unset, .unset, .unset, .unset, .unset, .unset, .unset, .unset, .unset] [(.int 1), (.int 1)])) _
    refine XS.iadd X0.here hx rfl (hb hby at_4) rfl ?_
    show Steps p.tables e below (s₁.setTop (mkF m 5 #[.val (.int p0), .val (.int p1), .val (.long p2), .second, .unset, .unset, .unset, .unset, .unset, .unset, .unset, .unset, .unset, .unset, .unset] [(.int ((1 : Int32) + (1 : Int32)))])) _
    rw [show ((1 : Int32) + (1 : Int32)) = (2 : Int32) from by decide]
    refine XS.istore X0.here hx rfl (hb hby at_5) rfl (l' := #[.val (.int p0), .val (.int p1), .val (.long p2), .second, .val (.int 2), .unset, .unset, .unset, .unset, .unset, .unset, .unset, .unset, .unset, .unset]) rfl ?_
    show Steps p.tables e below (s₁.setTop (mkF m 7 #[.val (.int p0), .val (.int p1), .val (.long p2), .second, .val (.int 2), .unset, .unset, .unset, .unset, .unset, .unset, .unset, .unset, .unset, .unset] [])) _
    refine st1 _ ?_
    show Steps p.tables e below (T1.setTop (mkF m 20 #[.val (.int p0), .val (.int p1), .val (.long p2), .second, .val (.int 2), .val (.int 1), .unset, .unset, .unset, .unset, .unset, .unset, .unset, .unset, .unset] [])) _
    refine st2 _ ?_
    show Steps p.tables e below (T2.setTop (mkF m 39 #[.val (.int p0), .val (.int p1), .val (.long p2), .second, .val (.int 2), .val (.int 1), .val (.int 1), .unset, .unset, .unset, .unset, .unset, .unset, .unset, .unset] [])) _
    refine st3 _ ?_
    show Steps p.tables e below (T3.setTop (mkF m 58 #[.val (.int p0), .val (.int p1), .val (.long p2), .second, .val (.int 2), .val (.int 1), .val (.int 1), .val (.int 0), .unset, .unset, .unset, .unset, .unset, .unset, .unset] [])) _
    refine st4 _ ?_
    show Steps p.tables e below (T4.setTop (mkF m 78 #[.val (.int p0), .val (.int p1), .val (.long p2), .second, .val (.int 2), .val (.int 1), .val (.int 1), .val (.int 0), .val (.int 0), .unset, .unset, .unset, .unset, .unset, .unset] [])) _
    refine st5 _ ?_
    show Steps p.tables e below (T5.setTop (mkF m 90 #[.val (.int p0), .val (.int p1), .val (.long p2), .second, .val (.int 2), .val (.int 1), .val (.int 1), .val (.int 0), .val (.int 0), .val (.long jam), .second, .val (.long 9223372036854775807), .second, .unset, .unset] [])) _
    refine st6 _ ?_
    show Steps p.tables e below (T6.setTop (mkF m 101 #[.val (.int p0), .val (.int p1), .val (.long p2), .second, .val (.int 2), .val (.int 1), .val (.int 1), .val (.int 0), .val (.int 0), .val (.long jam), .second, .val (.long 9223372036854775807), .second, .val (.ref b99), .unset] [])) _
    refine st7 _ ?_
    show Steps p.tables e below (T7.setTop (mkF m 116 #[.val (.int p0), .val (.int p1), .val (.long p2), .second, .val (.int 2), .val (.int 1), .val (.int 1), .val (.int 0), .val (.int 0), .val (.long jam), .second, .val (.long 9223372036854775807), .second, .val (.ref b99), .unset] [])) _
    refine st10 _ ?_
    show Steps p.tables e below (T10.setTop (mkF m 131 #[.val (.int p0), .val (.int p1), .val (.long p2), .second, .val (.int 2), .val (.int 1), .val (.int 1), .val (.int 0), .val (.int 0), .val (.long jam), .second, .val (.long 9223372036854775807), .second, .val (.ref b99), .unset] [])) _
    refine st16 _ ?_
    show Steps p.tables e below (T16.setTop (mkF m 146 #[.val (.int p0), .val (.int p1), .val (.long p2), .second, .val (.int 2), .val (.int 1), .val (.int 1), .val (.int 0), .val (.int 0), .val (.long jam), .second, .val (.long 9223372036854775807), .second, .val (.ref b99), .unset] [])) _
    refine st17 _ ?_
    show Steps p.tables e below (T17.setTop (mkF m 161 #[.val (.int p0), .val (.int p1), .val (.long p2), .second, .val (.int 2), .val (.int 1), .val (.int 1), .val (.int 0), .val (.int 0), .val (.long jam), .second, .val (.long 9223372036854775807), .second, .val (.ref b99), .unset] [])) _
    refine st18 _ ?_
    show Steps p.tables e below (T18.setTop (mkF m 179 #[.val (.int p0), .val (.int p1), .val (.long p2), .second, .val (.int 2), .val (.int 1), .val (.int 1), .val (.int 0), .val (.int 0), .val (.long jam), .second, .val (.long 9223372036854775807), .second, .val (.ref b99), .val (.int 1)] [])) _
    refine st21 _ ?_
    show Steps p.tables e below (T21.setTop (mkF m 208 #[.val (.int p0), .val (.int p1), .val (.long p2), .second, .val (.int 2), .val (.int 1), .val (.int 1), .val (.int 0), .val (.int 0), .val (.long jam), .second, .val (.long 9223372036854775807), .second, .val (.ref b99), .val (.int 1)] [])) _
    refine st22 _ ?_
    show Steps p.tables e below (T22.setTop (mkF m 237 #[.val (.int p0), .val (.int p1), .val (.long p2), .second, .val (.int 2), .val (.int 1), .val (.int 1), .val (.int 0), .val (.int 0), .val (.long jam), .second, .val (.long 9223372036854775807), .second, .val (.ref b99), .val (.int 1)] [])) _
    refine st23 _ ?_
    refine XS.iload X23.here hx rfl (hb hby at_266) rfl ?_
    show Steps p.tables e below (T23.setTop (mkF m 268 #[.val (.int p0), .val (.int p1), .val (.long p2), .second, .val (.int 2), .val (.int 1), .val (.int 1), .val (.int 0), .val (.int 0), .val (.long jam), .second, .val (.long 9223372036854775807), .second, .val (.ref b99), .val (.int 1)] [(.int 1)])) _
    exact retN X23 hx (t := .boolean) Bd.returns (by simp) (hb hby at_268) hr
  · show QT n0 _ T23.heap _
    rw [e23]
    exact ⟨rfl, N23⟩
set_option maxRecDepth 65536 in
set_option maxHeartbeats 40000000 in
theorem sg20_105 {p : Program} {l : Launch} {e : Env} {s : State} {m : MethodId} {below : List Frame} {meth : Method} {c : Code} {T0 : State} {locs : List Loc} {Z : State} {a0 : Array Value} (p0 : Int32) (p1 : Int32) (p2 : Int64) (gq5 : Int32) {h0 : Heap} {n0 : Nat} (X0 : Stand p l e room_1 s m #[(.int p0), (.int p1), (.long p2)] below meth c T0 locs 0 0) (hx : p.tables.exec = Jvm.exec) (hZ : Z.Warmed39 s.vm) (hw : ∀ d ∈ tables_1, d.before a0 Z = true) (hby : c.code = code) (hml : c.maxLocals = 15) (hown : s.vm.findClass "hexwright/engine/SealedBidsHasBidPinLaw" = some m.cls) (e0 : T0.heap = h0) (N0 : Fr n0 locs) (Z0 : n0 ≤ h0.size) (f1 : (p1 &&& (2 : Int32)) = (0 : Int32)) :
    ∃ (T : State) (L : List Loc), Stand p l e room_1 s m #[(.int p0), (.int p1), (.long p2)] below meth c T L 0 0 ∧ T.heap = h0 ∧ Fr n0 L ∧ (∀ target, Steps p.tables e below (T.setTop (mkF m 39 #[.val (.int p0), .val (.int p1), .val (.long p2), .second, .val (.int 3), .val (.int gq5), .val (.int 0), .unset, .unset, .unset, .unset, .unset, .unset, .unset, .unset] [])) target → Steps p.tables e below (T0.setTop (mkF m 20 #[.val (.int p0), .val (.int p1), .val (.long p2), .second, .val (.int 3), .val (.int gq5), .unset, .unset, .unset, .unset, .unset, .unset, .unset, .unset, .unset] [])) target) := by
  refine ⟨T0, _, X0, e0, N0, fun target kt => ?_⟩
  show Steps p.tables e below (T0.setTop (mkF m 20 #[.val (.int p0), .val (.int p1), .val (.long p2), .second, .val (.int 3), .val (.int gq5), .unset, .unset, .unset, .unset, .unset, .unset, .unset, .unset, .unset] [])) _
  refine XS.iload X0.here hx rfl (hb hby at_20) rfl ?_
  refine XS.iconst X0.here hx rfl (hb hby at_22) ?_
  refine XS.icmpNo X0.here hx rfl (hb hby at_23) rfl (by decide) ?_
  refine XS.iloadN X0.here hx rfl (hb hby at_26) rfl ?_
  refine XS.iconst X0.here hx rfl (hb hby at_27) ?_
  show Steps p.tables e below (T0.setTop (mkF m 28 #[.val (.int p0), .val (.int p1), .val (.long p2), .second, .val (.int 3), .val (.int gq5), .unset, .unset, .unset, .unset, .unset, .unset, .unset, .unset, .unset] [(.int 2), (.int p1)])) _
  refine XS.iand X0.here hx rfl (hb hby at_28) rfl ?_
  refine XS.ifYes X0.here hx rfl (pc0 := 29) (pc' := 36) rfl (hb hby at_29) rfl ((if0 _ _).trans (teq (f1 : (p1 &&& (2 : Int32)) = (0 : Int32))).1) (by decide) (by decide) ?_
  refine XS.iconst X0.here hx rfl (hb hby at_36) ?_
  refine XS.istore X0.here hx rfl (hb hby at_37) rfl (l' := #[.val (.int p0), .val (.int p1), .val (.long p2), .second, .val (.int 3), .val (.int gq5), .val (.int 0), .unset, .unset, .unset, .unset, .unset, .unset, .unset, .unset]) rfl ?_
  show Steps p.tables e below (T0.setTop (mkF m 39 #[.val (.int p0), .val (.int p1), .val (.long p2), .second, .val (.int 3), .val (.int gq5), .val (.int 0), .unset, .unset, .unset, .unset, .unset, .unset, .unset, .unset] [])) _
  exact kt
set_option maxRecDepth 65536 in
set_option maxHeartbeats 40000000 in
theorem sg39_106 {p : Program} {l : Launch} {e : Env} {s : State} {m : MethodId} {below : List Frame} {meth : Method} {c : Code} {T0 : State} {locs : List Loc} {Z : State} {a0 : Array Value} (p0 : Int32) (p1 : Int32) (p2 : Int64) (gq5 : Int32) (gq6 : Int32) {h0 : Heap} {n0 : Nat} (X0 : Stand p l e room_1 s m #[(.int p0), (.int p1), (.long p2)] below meth c T0 locs 0 0) (hx : p.tables.exec = Jvm.exec) (hZ : Z.Warmed39 s.vm) (hw : ∀ d ∈ tables_1, d.before a0 Z = true) (hby : c.code = code) (hml : c.maxLocals = 15) (hown : s.vm.findClass "hexwright/engine/SealedBidsHasBidPinLaw" = some m.cls) (e0 : T0.heap = h0) (N0 : Fr n0 locs) (Z0 : n0 ≤ h0.size) (f1 : (p1 &&& (4 : Int32)) = (0 : Int32)) :
    ∃ (T : State) (L : List Loc), Stand p l e room_1 s m #[(.int p0), (.int p1), (.long p2)] below meth c T L 0 0 ∧ T.heap = h0 ∧ Fr n0 L ∧ (∀ target, Steps p.tables e below (T.setTop (mkF m 58 #[.val (.int p0), .val (.int p1), .val (.long p2), .second, .val (.int 3), .val (.int gq5), .val (.int gq6), .val (.int 0), .unset, .unset, .unset, .unset, .unset, .unset, .unset] [])) target → Steps p.tables e below (T0.setTop (mkF m 39 #[.val (.int p0), .val (.int p1), .val (.long p2), .second, .val (.int 3), .val (.int gq5), .val (.int gq6), .unset, .unset, .unset, .unset, .unset, .unset, .unset, .unset] [])) target) := by
  refine ⟨T0, _, X0, e0, N0, fun target kt => ?_⟩
  show Steps p.tables e below (T0.setTop (mkF m 39 #[.val (.int p0), .val (.int p1), .val (.long p2), .second, .val (.int 3), .val (.int gq5), .val (.int gq6), .unset, .unset, .unset, .unset, .unset, .unset, .unset, .unset] [])) _
  refine XS.iload X0.here hx rfl (hb hby at_39) rfl ?_
  refine XS.iconst X0.here hx rfl (hb hby at_41) ?_
  refine XS.icmpNo X0.here hx rfl (hb hby at_42) rfl (by decide) ?_
  refine XS.iloadN X0.here hx rfl (hb hby at_45) rfl ?_
  refine XS.iconst X0.here hx rfl (hb hby at_46) ?_
  show Steps p.tables e below (T0.setTop (mkF m 47 #[.val (.int p0), .val (.int p1), .val (.long p2), .second, .val (.int 3), .val (.int gq5), .val (.int gq6), .unset, .unset, .unset, .unset, .unset, .unset, .unset, .unset] [(.int 4), (.int p1)])) _
  refine XS.iand X0.here hx rfl (hb hby at_47) rfl ?_
  refine XS.ifYes X0.here hx rfl (pc0 := 48) (pc' := 55) rfl (hb hby at_48) rfl ((if0 _ _).trans (teq (f1 : (p1 &&& (4 : Int32)) = (0 : Int32))).1) (by decide) (by decide) ?_
  refine XS.iconst X0.here hx rfl (hb hby at_55) ?_
  refine XS.istore X0.here hx rfl (hb hby at_56) rfl (l' := #[.val (.int p0), .val (.int p1), .val (.long p2), .second, .val (.int 3), .val (.int gq5), .val (.int gq6), .val (.int 0), .unset, .unset, .unset, .unset, .unset, .unset, .unset]) rfl ?_
  show Steps p.tables e below (T0.setTop (mkF m 58 #[.val (.int p0), .val (.int p1), .val (.long p2), .second, .val (.int 3), .val (.int gq5), .val (.int gq6), .val (.int 0), .unset, .unset, .unset, .unset, .unset, .unset, .unset] [])) _
  exact kt
set_option maxRecDepth 65536 in
set_option maxHeartbeats 40000000 in
theorem sg58_107 {p : Program} {l : Launch} {e : Env} {s : State} {m : MethodId} {below : List Frame} {meth : Method} {c : Code} {T0 : State} {locs : List Loc} {Z : State} {a0 : Array Value} (p0 : Int32) (p1 : Int32) (p2 : Int64) (gq5 : Int32) (gq6 : Int32) (gq7 : Int32) {h0 : Heap} {n0 : Nat} (X0 : Stand p l e room_1 s m #[(.int p0), (.int p1), (.long p2)] below meth c T0 locs 0 0) (hx : p.tables.exec = Jvm.exec) (hZ : Z.Warmed39 s.vm) (hw : ∀ d ∈ tables_1, d.before a0 Z = true) (hby : c.code = code) (hml : c.maxLocals = 15) (hown : s.vm.findClass "hexwright/engine/SealedBidsHasBidPinLaw" = some m.cls) (e0 : T0.heap = h0) (N0 : Fr n0 locs) (Z0 : n0 ≤ h0.size) :
    ∃ (T : State) (L : List Loc), Stand p l e room_1 s m #[(.int p0), (.int p1), (.long p2)] below meth c T L 0 0 ∧ T.heap = h0 ∧ Fr n0 L ∧ (∀ target, Steps p.tables e below (T.setTop (mkF m 78 #[.val (.int p0), .val (.int p1), .val (.long p2), .second, .val (.int 3), .val (.int gq5), .val (.int gq6), .val (.int gq7), .val (.int 0), .unset, .unset, .unset, .unset, .unset, .unset] [])) target → Steps p.tables e below (T0.setTop (mkF m 58 #[.val (.int p0), .val (.int p1), .val (.long p2), .second, .val (.int 3), .val (.int gq5), .val (.int gq6), .val (.int gq7), .unset, .unset, .unset, .unset, .unset, .unset, .unset] [])) target) := by
  refine ⟨T0, _, X0, e0, N0, fun target kt => ?_⟩
  show Steps p.tables e below (T0.setTop (mkF m 58 #[.val (.int p0), .val (.int p1), .val (.long p2), .second, .val (.int 3), .val (.int gq5), .val (.int gq6), .val (.int gq7), .unset, .unset, .unset, .unset, .unset, .unset, .unset] [])) _
  refine XS.iload X0.here hx rfl (hb hby at_58) rfl ?_
  refine XS.iconst X0.here hx rfl (hb hby at_60) ?_
  refine XS.icmpYes X0.here hx rfl (pc0 := 61) (pc' := 75) rfl (hb hby at_61) rfl (by decide) (by decide) (by decide) ?_
  refine XS.iconst X0.here hx rfl (hb hby at_75) ?_
  refine XS.istore X0.here hx rfl (hb hby at_76) rfl (l' := #[.val (.int p0), .val (.int p1), .val (.long p2), .second, .val (.int 3), .val (.int gq5), .val (.int gq6), .val (.int gq7), .val (.int 0), .unset, .unset, .unset, .unset, .unset, .unset]) rfl ?_
  show Steps p.tables e below (T0.setTop (mkF m 78 #[.val (.int p0), .val (.int p1), .val (.long p2), .second, .val (.int 3), .val (.int gq5), .val (.int gq6), .val (.int gq7), .val (.int 0), .unset, .unset, .unset, .unset, .unset, .unset] [])) _
  exact kt
abbrev R_1_1_3_12 : Room := { frames := 1, cells := 1, slots := 3, locals := 12 }
def Q1_112 (Z : State) (c0_a : Addr) (h0 : Heap) (n0 : Nat) (v : Option Value) (h : Heap) (L : List Loc) : Prop := ∃ (b109 : Addr) (kc110 : ClassId), v = none ∧ Fr n0 L ∧ Keep h0 h [c0_a] ∧ h0.size ≤ b109 ∧ F_0 Z h c0_a (.ref b109) ∧ Arv Z h b109 kc110 (.object "java/lang/Long") (3 : Int32) [.null, .null, .null] .null ∧ Ovr Z kc110 "java/lang/Long"
set_option maxRecDepth 65536 in
set_option maxHeartbeats 40000000 in
theorem rm1_111 (l : Launch) (Z : State) (a0 : Array Value) (hw : ∀ d ∈ tables_1, d.before a0 Z = true) (ws : List Jvm.Cond) (c0_a : Addr) (h0 : Heap) (n0 : Nat) (Z0 : n0 ≤ h0.size) (f1 : F_0 Z h0 c0_a .null) (f2 : E_1 Z h0 c0_a) (f3 : n0 ≤ c0_a) :
    MetFree l M_0 (head1 (Jvm.Cond.code M_0 prog_14_method_1_code 2 none :: ws) R_1_1_3_12) (fun a U => a = #[(.ref c0_a), (.int 3)] ∧ Z.Warmed39 U.vm ∧ U.heap = h0) (fun _ _ _ _ _ => True) (fun _ U o U' => ∃ v L, o = .returned v ∧ Q1_112 Z c0_a h0 n0 v U'.heap L ∧ FrameEnd U o U' L R_1_1_3_12.cells R_1_1_3_12.slots) := by
  refine MetFree.of_bodySF (plainFor_of_name pn_hexwright_engine_SealedBids) hisR ?_
  intro p e s m args below meth c s₁ Bd hml0 hP hK
  obtain ⟨rfl, hZ, hh⟩ := hP
  have hx := Bd.exec
  have hby := Bd.bytes
  have hml : c.maxLocals = 2 := hml0
  have hown : s.vm.findClass "hexwright/engine/SealedBids" = some m.cls := findClass_of_methodNamed Bd.named
  have hnm := (name_of_methodNamed Bd.named Bd.method).1
  have X0 : Stand p l e R_1_1_3_12 s m #[(.ref c0_a), (.int 3)] below meth c s₁ [] 0 0 := Stand.of_body Bd
  have e0 : s₁.heap = h0 := by rw [← hh, Bd.state]; rfl
  have N0 := Fr.nil n0
  obtain ⟨T1, X1, e1, st1⟩ := initO X0 hx hZ hown (tw_7 hw) (tw_8 hw) (tw_9 hw) e0 (g := (mkF m 1 #[.val (.ref c0_a), .val (.int 3)] [(.ref c0_a)])) rfl (by rw [hml]; rfl) rfl (hb hby d1_1) (by decide) (W := 0) (by show 2 * 0 + _ ≤ _; exact Nat.le_of_eq rfl) (by decide)
  obtain ⟨T2, h2, k2, X2, e2, E2, A2, O2, st2⟩ := newR X1 hx hZ hown (tw_10 hw) (tw_11 hw) e1 (g := (mkF m 6 #[.val (.ref c0_a), .val (.int 3)] [(.int 3), (.ref c0_a)])) rfl (hb hby d1_6) rfl (by decide : ¬ ((3 : Int32) < (0 : Int32))) (cap := 3) (by decide : (3 : Int32).toNatClampNeg ≤ 3) (by decide) (by decide) (by decide)
  obtain ⟨b109, g2⟩ : ∃ z, z = h0.size := ⟨_, rfl⟩
  rw [← g2] at A2 st2
  obtain ⟨kc110, gk2⟩ : ∃ z, z = k2 := ⟨_, rfl⟩
  rw [← gk2] at A2 O2
  have sz_b109 : h0.size ≤ b109 := Nat.le_trans (Nat.le_refl _) (Nat.le_of_eq g2.symm)
  have g_b109 : n0 ≤ b109 := Nat.le_trans Z0 sz_b109
  have KK2 : Keep h0 h2 [c0_a] := (Keep.refl h0 [c0_a]).ext E2
  have V2 : Arv Z h2 b109 kc110 (.object "java/lang/Long") (3 : Int32) [.null, .null, .null] .null := (Arv.new A2 (by decide)).pad (pad_rep [] .null 3)
  have u3 : F_0 Z h2 c0_a .null := Fld.ext E2 f1
  have u4 : E_1 Z h2 c0_a := Exa.ext E2 f2
  obtain ⟨T5, h5, X5, e5, W5, st5⟩ := putF X2 hx hZ hown (host := "") (Or.inl (tw_12 hw)) Via.refl e2 u3 u4 (Or.inr ⟨(tw_13 hw), rfl, hnm⟩) (tw_2 hw) (ty := (.array (.object "java/lang/Long"))) (by decide) rfl rfl (g := (mkF m 9 #[.val (.ref c0_a), .val (.int 3)] [(.ref b109), (.ref c0_a)])) rfl rfl (hb hby d1_9)
  have Fw5 : F_0 Z h5 c0_a (.ref b109) := Fld.same W5 u3
  have KK5 : Keep h0 h5 [c0_a] := KK2.wr W5 (Or.inl (List.mem_of_getElem? (i := 0) rfl))
  have N5 := Fr.snoc X5 N0 f3
  have ne6 : c0_a ≠ b109 := Nat.ne_of_lt (Nat.lt_of_lt_of_le (Exa.lt f2) (Nat.le_of_eq g2.symm))
  have u7 : Arv Z h5 b109 kc110 (.object "java/lang/Long") (3 : Int32) [.null, .null, .null] .null := Arv.other V2 W5 (Ne.symm ne6)
  obtain ⟨fs, hr, hrun, hended, hW, hsame⟩ := X5.leave (v := none) (fun _ => rfl)
  refine ⟨_, _, castTop (ef1_RI m c0_a (3 : Int32)) ?_, hrun, hended, _, _, rfl, ?_, ⟨_, rfl⟩, hW, hsame.mono (by decide) (by decide)⟩
  · show Steps p.tables e below (s₁.setTop (mkF m 0 #[.val (.ref c0_a), .val (.int 3)] [])) _
    refine XS.aloadN X0.here hx rfl (hb hby d1_0) rfl rfl ?_
    show Steps p.tables e below (s₁.setTop (mkF m 1 #[.val (.ref c0_a), .val (.int 3)] [(.ref c0_a)])) _
    refine st1 _ ?_
    refine XS.aloadN X1.here hx rfl (hb hby d1_4) rfl rfl ?_
    refine XS.iloadN X1.here hx rfl (hb hby d1_5) rfl ?_
    show Steps p.tables e below (T1.setTop (mkF m 6 #[.val (.ref c0_a), .val (.int 3)] [(.int 3), (.ref c0_a)])) _
    refine st2 _ ?_
    show Steps p.tables e below (T2.setTop (mkF m 9 #[.val (.ref c0_a), .val (.int 3)] [(.ref b109), (.ref c0_a)])) _
    refine st5 _ ?_
    show Steps p.tables e below (T5.setTop (mkF m 12 #[.val (.ref c0_a), .val (.int 3)] [])) _
    exact X5.returnOut hx Bd.returns (hb hby d1_12) hr
  · show Q1_112 Z c0_a h0 n0 _ T5.heap _
    rw [e5]
    exact ⟨b109, kc110, rfl, N5, KK5, sz_b109, Fw5, u7, O2⟩
set_option maxRecDepth 65536 in
set_option maxHeartbeats 40000000 in
theorem sg90_115 {p : Program} {l : Launch} {e : Env} {s : State} {m : MethodId} {below : List Frame} {meth : Method} {c : Code} {T0 : State} {locs : List Loc} {Z : State} {a0 : Array Value} (p0 : Int32) (p1 : Int32) (p2 : Int64) (gq5 : Int32) (gq6 : Int32) (gq7 : Int32) (gq8 : Int32) (jam : Int64) (gq11 : Int64) {h0 : Heap} {n0 : Nat} (X0 : Stand p l e room_1 s m #[(.int p0), (.int p1), (.long p2)] below meth c T0 locs 0 0) (hx : p.tables.exec = Jvm.exec) (hZ : Z.Warmed39 s.vm) (hw : ∀ d ∈ tables_1, d.before a0 Z = true) (hby : c.code = code) (hml : c.maxLocals = 15) (hown : s.vm.findClass "hexwright/engine/SealedBidsHasBidPinLaw" = some m.cls) (e0 : T0.heap = h0) (N0 : Fr n0 locs) (Z0 : n0 ≤ h0.size) :
    ∃ (T : State) (h : Heap) (L : List Loc) (b108 : Addr) (b113 : Addr) (kc114 : ClassId), Stand p l e room_1 s m #[(.int p0), (.int p1), (.long p2)] below meth c T L 2 4 ∧ T.heap = h ∧ Fr n0 L ∧ Keep h0 h [] ∧ h0.size ≤ b108 ∧ h0.size ≤ b113 ∧ E_1 Z h b108 ∧ F_0 Z h b108 (.ref b113) ∧ Arv Z h b113 kc114 (.object "java/lang/Long") (3 : Int32) [.null, .null, .null] .null ∧ Ovr Z kc114 "java/lang/Long" ∧ b108 ≠ b113 ∧ (∀ target, Steps p.tables e below (T.setTop (mkF m 101 #[.val (.int p0), .val (.int p1), .val (.long p2), .second, .val (.int 3), .val (.int gq5), .val (.int gq6), .val (.int gq7), .val (.int gq8), .val (.long jam), .second, .val (.long gq11), .second, .val (.ref b108), .unset] [])) target → Steps p.tables e below (T0.setTop (mkF m 90 #[.val (.int p0), .val (.int p1), .val (.long p2), .second, .val (.int 3), .val (.int gq5), .val (.int gq6), .val (.int gq7), .val (.int gq8), .val (.long jam), .second, .val (.long gq11), .second, .unset, .unset] [])) target) := by
  obtain ⟨T1, h1, X1, e1, E1, A1, D1, -, st1⟩ := newO X0 hx hZ hown (tw_1 hw) (tw_2 hw) (tw_3 hw) e0 (g := (mkF m 90 #[.val (.int p0), .val (.int p1), .val (.long p2), .second, .val (.int 3), .val (.int gq5), .val (.int gq6), .val (.int gq7), .val (.int gq8), .val (.long jam), .second, .val (.long gq11), .second, .unset, .unset] [])) rfl (hb hby at_90) (by decide) (by decide)
  obtain ⟨b108, g1⟩ : ∃ z, z = h0.size := ⟨_, rfl⟩
  rw [← g1] at A1 D1 st1
  have sz_b108 : h0.size ≤ b108 := Nat.le_trans (Nat.le_refl _) (Nat.le_of_eq g1.symm)
  have g_b108 : n0 ≤ b108 := Nat.le_trans Z0 sz_b108
  have KK1 : Keep h0 h1 [] := (Keep.refl h0 []).ext E1
  have F1_13 : F_0 Z h1 b108 .null := D1 (Or.inr (tw_13 hw)) (ty := (.array (.object "java/lang/Long"))) (by decide)
  -- pc 96: hexwright/engine/SealedBids.<init>
  obtain ⟨_, _, ⟨T2, L2, k2, n2⟩, -, X2, ⟨Lc2, hQ2, l2, y2, z2⟩, st2⟩ := X1.specialBack hx (y := M_0) rfl hown (mvT hZ (tw_4 hw)) (mvT hZ (tw_5 hw)) (mvT hZ (tw_6 hw)) (by decide) (backOf (W := 1) (rm1_111 l Z a0 hw [] b108 h1 n0 (Nat.le_trans Z0 KK1.1) F1_13 A1 g_b108) hZ (tw_6 hw) (tw_3 hw) (by decide) (by decide)) (g := (mkF m 96 #[.val (.int p0), .val (.int p1), .val (.long p2), .second, .val (.int 3), .val (.int gq5), .val (.int gq6), .val (.int gq7), .val (.int gq8), .val (.long jam), .second, .val (.long gq11), .second, .unset, .unset] [(.int 3), (.ref b108), (.ref b108)])) rfl (by rw [hml]; rfl) (Steps.refl _) (a := b108) (argsL := [(.int 3)]) (rest := [(.ref b108)]) (lenOf pd_0 rfl) rfl (by show 2 * 0 + _ ≤ _; exact Nat.le_of_eq rfl) (hb hby at_96) (fun _ _ => ⟨rfl, e1, (by decide : 1 + 1 ≤ _), (by decide : 1 + 3 ≤ _)⟩)
  dsimp only [Pt.U, Pt.locs, Pt.cells, Pt.slots] at X2 l2 y2 z2 st2 hQ2
  subst l2 y2 z2
  obtain ⟨b113, kc114, rfl, Nq2, K2, le_b113, o2_0, o2_1, o2_2⟩ := hQ2
  have N2 := Fr.app N0 Nq2
  have sz_b113 : h0.size ≤ b113 := Nat.le_trans KK1.1 le_b113
  have g_b113 : n0 ≤ b113 := Nat.le_trans Z0 sz_b113
  have KK2 : Keep h0 T2.heap [] := KK1.trans K2 (fun x hx => (List.mem_cons.mp hx).elim (fun q => q ▸ (Or.inr sz_b108)) (fun hx => nomatch hx))
  have u3 : E_1 Z T2.heap b108 := Exa.keep A1 K2
  have ne4 : b108 ≠ b113 := Nat.ne_of_lt (Nat.lt_of_lt_of_le (Exa.lt A1) le_b113)
  refine ⟨T2, _, _, b108, b113, kc114, X2, rfl, N2, KK2, sz_b108, sz_b113, u3, o2_0, o2_1, o2_2, ne4, fun target kt => ?_⟩
  show Steps p.tables e below (T0.setTop (mkF m 90 #[.val (.int p0), .val (.int p1), .val (.long p2), .second, .val (.int 3), .val (.int gq5), .val (.int gq6), .val (.int gq7), .val (.int gq8), .val (.long jam), .second, .val (.long gq11), .second, .unset, .unset] [])) _
  refine st1 _ ?_
  refine XS.dup X1.here hx rfl (hb hby at_93) rfl rfl ?_
  refine XS.iload X1.here hx rfl (hb hby at_94) rfl ?_
  show Steps p.tables e below (T1.setTop (mkF m 96 #[.val (.int p0), .val (.int p1), .val (.long p2), .second, .val (.int 3), .val (.int gq5), .val (.int gq6), .val (.int gq7), .val (.int gq8), .val (.long jam), .second, .val (.long gq11), .second, .unset, .unset] [(.int 3), (.ref b108), (.ref b108)])) _
  refine st2.trans ?_
  refine XS.astore X2.here hx rfl (hb hby at_99) rfl rfl (l' := #[.val (.int p0), .val (.int p1), .val (.long p2), .second, .val (.int 3), .val (.int gq5), .val (.int gq6), .val (.int gq7), .val (.int gq8), .val (.long jam), .second, .val (.long gq11), .second, .val (.ref b108), .unset]) rfl ?_
  show Steps p.tables e below (T2.setTop (mkF m 101 #[.val (.int p0), .val (.int p1), .val (.long p2), .second, .val (.int 3), .val (.int gq5), .val (.int gq6), .val (.int gq7), .val (.int gq8), .val (.long jam), .second, .val (.long gq11), .second, .val (.ref b108), .unset] [])) _
  exact kt
set_option maxRecDepth 65536 in
set_option maxHeartbeats 40000000 in
theorem sg101_119 {p : Program} {l : Launch} {e : Env} {s : State} {m : MethodId} {below : List Frame} {meth : Method} {c : Code} {T0 : State} {locs : List Loc} {Z : State} {a0 : Array Value} (p0 : Int32) (p1 : Int32) (p2 : Int64) (gq4 : Int32) (gq6 : Int32) (gq7 : Int32) (gq8 : Int32) (jam : Int64) (c0_a : Addr) {h0 : Heap} {n0 : Nat} (X0 : Stand p l e room_1 s m #[(.int p0), (.int p1), (.long p2)] below meth c T0 locs 2 4) (hx : p.tables.exec = Jvm.exec) (hZ : Z.Warmed39 s.vm) (hw : ∀ d ∈ tables_1, d.before a0 Z = true) (hby : c.code = code) (hml : c.maxLocals = 15) (hown : s.vm.findClass "hexwright/engine/SealedBidsHasBidPinLaw" = some m.cls) (e0 : T0.heap = h0) (N0 : Fr n0 locs) (Z0 : n0 ≤ h0.size) :
    ∃ (T : State) (L : List Loc), Stand p l e room_1 s m #[(.int p0), (.int p1), (.long p2)] below meth c T L 3 5 ∧ T.heap = h0 ∧ Fr n0 L ∧ (∀ target, Steps p.tables e below (T.setTop (mkF m 116 #[.val (.int p0), .val (.int p1), .val (.long p2), .second, .val (.int gq4), .val (.int 0), .val (.int gq6), .val (.int gq7), .val (.int gq8), .val (.long jam), .second, .val (.long 9223372036854775807), .second, .val (.ref c0_a), .unset] [])) target → Steps p.tables e below (T0.setTop (mkF m 101 #[.val (.int p0), .val (.int p1), .val (.long p2), .second, .val (.int gq4), .val (.int 0), .val (.int gq6), .val (.int gq7), .val (.int gq8), .val (.long jam), .second, .val (.long 9223372036854775807), .second, .val (.ref c0_a), .unset] [])) target) := by
  refine ⟨T0, _, (X0.more (by decide) (by decide)), e0, N0, fun target kt => ?_⟩
  show Steps p.tables e below (T0.setTop (mkF m 101 #[.val (.int p0), .val (.int p1), .val (.long p2), .second, .val (.int gq4), .val (.int 0), .val (.int gq6), .val (.int gq7), .val (.int gq8), .val (.long jam), .second, .val (.long 9223372036854775807), .second, .val (.ref c0_a), .unset] [])) _
  refine XS.iload X0.here hx rfl (hb hby at_101) rfl ?_
  refine XS.ifYes X0.here hx rfl (pc0 := 103) (pc' := 116) rfl (hb hby at_103) rfl (by decide) (by decide) (by decide) ?_
  show Steps p.tables e below (T0.setTop (mkF m 116 #[.val (.int p0), .val (.int p1), .val (.long p2), .second, .val (.int gq4), .val (.int 0), .val (.int gq6), .val (.int gq7), .val (.int gq8), .val (.long jam), .second, .val (.long 9223372036854775807), .second, .val (.ref c0_a), .unset] [])) _
  exact kt
set_option maxRecDepth 65536 in
set_option maxHeartbeats 40000000 in
theorem sg116_120 {p : Program} {l : Launch} {e : Env} {s : State} {m : MethodId} {below : List Frame} {meth : Method} {c : Code} {T0 : State} {locs : List Loc} {Z : State} {a0 : Array Value} (p0 : Int32) (p1 : Int32) (p2 : Int64) (gq4 : Int32) (gq5 : Int32) (gq7 : Int32) (gq8 : Int32) (jam : Int64) (c0_a : Addr) {h0 : Heap} {n0 : Nat} (X0 : Stand p l e room_1 s m #[(.int p0), (.int p1), (.long p2)] below meth c T0 locs 3 5) (hx : p.tables.exec = Jvm.exec) (hZ : Z.Warmed39 s.vm) (hw : ∀ d ∈ tables_1, d.before a0 Z = true) (hby : c.code = code) (hml : c.maxLocals = 15) (hown : s.vm.findClass "hexwright/engine/SealedBidsHasBidPinLaw" = some m.cls) (e0 : T0.heap = h0) (N0 : Fr n0 locs) (Z0 : n0 ≤ h0.size) :
    ∃ (T : State) (L : List Loc), Stand p l e room_1 s m #[(.int p0), (.int p1), (.long p2)] below meth c T L 4 6 ∧ T.heap = h0 ∧ Fr n0 L ∧ (∀ target, Steps p.tables e below (T.setTop (mkF m 131 #[.val (.int p0), .val (.int p1), .val (.long p2), .second, .val (.int gq4), .val (.int gq5), .val (.int 0), .val (.int gq7), .val (.int gq8), .val (.long jam), .second, .val (.long 9223372036854775807), .second, .val (.ref c0_a), .unset] [])) target → Steps p.tables e below (T0.setTop (mkF m 116 #[.val (.int p0), .val (.int p1), .val (.long p2), .second, .val (.int gq4), .val (.int gq5), .val (.int 0), .val (.int gq7), .val (.int gq8), .val (.long jam), .second, .val (.long 9223372036854775807), .second, .val (.ref c0_a), .unset] [])) target) := by
  refine ⟨T0, _, (X0.more (by decide) (by decide)), e0, N0, fun target kt => ?_⟩
  show Steps p.tables e below (T0.setTop (mkF m 116 #[.val (.int p0), .val (.int p1), .val (.long p2), .second, .val (.int gq4), .val (.int gq5), .val (.int 0), .val (.int gq7), .val (.int gq8), .val (.long jam), .second, .val (.long 9223372036854775807), .second, .val (.ref c0_a), .unset] [])) _
  refine XS.iload X0.here hx rfl (hb hby at_116) rfl ?_
  refine XS.ifYes X0.here hx rfl (pc0 := 118) (pc' := 131) rfl (hb hby at_118) rfl (by decide) (by decide) (by decide) ?_
  show Steps p.tables e below (T0.setTop (mkF m 131 #[.val (.int p0), .val (.int p1), .val (.long p2), .second, .val (.int gq4), .val (.int gq5), .val (.int 0), .val (.int gq7), .val (.int gq8), .val (.long jam), .second, .val (.long 9223372036854775807), .second, .val (.ref c0_a), .unset] [])) _
  exact kt
set_option maxRecDepth 65536 in
set_option maxHeartbeats 40000000 in
theorem sg131_121 {p : Program} {l : Launch} {e : Env} {s : State} {m : MethodId} {below : List Frame} {meth : Method} {c : Code} {T0 : State} {locs : List Loc} {Z : State} {a0 : Array Value} (p0 : Int32) (p1 : Int32) (p2 : Int64) (gq4 : Int32) (gq5 : Int32) (gq6 : Int32) (gq8 : Int32) (jam : Int64) (c0_a : Addr) {h0 : Heap} {n0 : Nat} (X0 : Stand p l e room_1 s m #[(.int p0), (.int p1), (.long p2)] below meth c T0 locs 4 6) (hx : p.tables.exec = Jvm.exec) (hZ : Z.Warmed39 s.vm) (hw : ∀ d ∈ tables_1, d.before a0 Z = true) (hby : c.code = code) (hml : c.maxLocals = 15) (hown : s.vm.findClass "hexwright/engine/SealedBidsHasBidPinLaw" = some m.cls) (e0 : T0.heap = h0) (N0 : Fr n0 locs) (Z0 : n0 ≤ h0.size) :
    ∃ (T : State) (L : List Loc), Stand p l e room_1 s m #[(.int p0), (.int p1), (.long p2)] below meth c T L 5 7 ∧ T.heap = h0 ∧ Fr n0 L ∧ (∀ target, Steps p.tables e below (T.setTop (mkF m 146 #[.val (.int p0), .val (.int p1), .val (.long p2), .second, .val (.int gq4), .val (.int gq5), .val (.int gq6), .val (.int 0), .val (.int gq8), .val (.long jam), .second, .val (.long 9223372036854775807), .second, .val (.ref c0_a), .unset] [])) target → Steps p.tables e below (T0.setTop (mkF m 131 #[.val (.int p0), .val (.int p1), .val (.long p2), .second, .val (.int gq4), .val (.int gq5), .val (.int gq6), .val (.int 0), .val (.int gq8), .val (.long jam), .second, .val (.long 9223372036854775807), .second, .val (.ref c0_a), .unset] [])) target) := by
  refine ⟨T0, _, (X0.more (by decide) (by decide)), e0, N0, fun target kt => ?_⟩
  show Steps p.tables e below (T0.setTop (mkF m 131 #[.val (.int p0), .val (.int p1), .val (.long p2), .second, .val (.int gq4), .val (.int gq5), .val (.int gq6), .val (.int 0), .val (.int gq8), .val (.long jam), .second, .val (.long 9223372036854775807), .second, .val (.ref c0_a), .unset] [])) _
  refine XS.iload X0.here hx rfl (hb hby at_131) rfl ?_
  refine XS.ifYes X0.here hx rfl (pc0 := 133) (pc' := 146) rfl (hb hby at_133) rfl (by decide) (by decide) (by decide) ?_
  show Steps p.tables e below (T0.setTop (mkF m 146 #[.val (.int p0), .val (.int p1), .val (.long p2), .second, .val (.int gq4), .val (.int gq5), .val (.int gq6), .val (.int 0), .val (.int gq8), .val (.long jam), .second, .val (.long 9223372036854775807), .second, .val (.ref c0_a), .unset] [])) _
  exact kt
set_option maxRecDepth 65536 in
set_option maxHeartbeats 40000000 in
theorem sg146_122 {p : Program} {l : Launch} {e : Env} {s : State} {m : MethodId} {below : List Frame} {meth : Method} {c : Code} {T0 : State} {locs : List Loc} {Z : State} {a0 : Array Value} (p0 : Int32) (p1 : Int32) (p2 : Int64) (gq4 : Int32) (gq5 : Int32) (gq6 : Int32) (gq7 : Int32) (jam : Int64) (c0_a : Addr) {h0 : Heap} {n0 : Nat} (X0 : Stand p l e room_1 s m #[(.int p0), (.int p1), (.long p2)] below meth c T0 locs 5 7) (hx : p.tables.exec = Jvm.exec) (hZ : Z.Warmed39 s.vm) (hw : ∀ d ∈ tables_1, d.before a0 Z = true) (hby : c.code = code) (hml : c.maxLocals = 15) (hown : s.vm.findClass "hexwright/engine/SealedBidsHasBidPinLaw" = some m.cls) (e0 : T0.heap = h0) (N0 : Fr n0 locs) (Z0 : n0 ≤ h0.size) :
    ∃ (T : State) (L : List Loc), Stand p l e room_1 s m #[(.int p0), (.int p1), (.long p2)] below meth c T L 6 8 ∧ T.heap = h0 ∧ Fr n0 L ∧ (∀ target, Steps p.tables e below (T.setTop (mkF m 161 #[.val (.int p0), .val (.int p1), .val (.long p2), .second, .val (.int gq4), .val (.int gq5), .val (.int gq6), .val (.int gq7), .val (.int 0), .val (.long jam), .second, .val (.long 9223372036854775807), .second, .val (.ref c0_a), .unset] [])) target → Steps p.tables e below (T0.setTop (mkF m 146 #[.val (.int p0), .val (.int p1), .val (.long p2), .second, .val (.int gq4), .val (.int gq5), .val (.int gq6), .val (.int gq7), .val (.int 0), .val (.long jam), .second, .val (.long 9223372036854775807), .second, .val (.ref c0_a), .unset] [])) target) := by
  refine ⟨T0, _, (X0.more (by decide) (by decide)), e0, N0, fun target kt => ?_⟩
  show Steps p.tables e below (T0.setTop (mkF m 146 #[.val (.int p0), .val (.int p1), .val (.long p2), .second, .val (.int gq4), .val (.int gq5), .val (.int gq6), .val (.int gq7), .val (.int 0), .val (.long jam), .second, .val (.long 9223372036854775807), .second, .val (.ref c0_a), .unset] [])) _
  refine XS.iload X0.here hx rfl (hb hby at_146) rfl ?_
  refine XS.ifYes X0.here hx rfl (pc0 := 148) (pc' := 161) rfl (hb hby at_148) rfl (by decide) (by decide) (by decide) ?_
  show Steps p.tables e below (T0.setTop (mkF m 161 #[.val (.int p0), .val (.int p1), .val (.long p2), .second, .val (.int gq4), .val (.int gq5), .val (.int gq6), .val (.int gq7), .val (.int 0), .val (.long jam), .second, .val (.long 9223372036854775807), .second, .val (.ref c0_a), .unset] [])) _
  exact kt
set_option maxRecDepth 65536 in
set_option maxHeartbeats 40000000 in
theorem rm5_123 (l : Launch) (Z : State) (a0 : Array Value) (hw : ∀ d ∈ tables_1, d.before a0 Z = true) (ws : List Jvm.Cond) (c0_a : Addr) (c1_a : Addr) (c2_k : ClassId) (gx1 : Value) (gx2 : Value) (h0 : Heap) (n0 : Nat) (Z0 : n0 ≤ h0.size) (f1 : F_0 Z h0 c0_a (.ref c1_a)) (f2 : Arv Z h0 c1_a c2_k (.object "java/lang/Long") (3 : Int32) [.null, gx1, gx2] .null) :
    MetFree l M_1 (head1 (Jvm.Cond.code M_1 prog_14_method_4_code 2 (some .boolean) :: ws) R_0_0_0_0) (fun a U => a = #[(.ref c0_a), (.int 1)] ∧ Z.Warmed39 U.vm ∧ U.heap = h0) (fun _ _ _ _ _ => True) (fun _ U o U' => ∃ v L, o = .returned v ∧ QP (some (.int 0)) h0 n0 v U'.heap L ∧ FrameEnd U o U' L R_0_0_0_0.cells R_0_0_0_0.slots) := by
  refine MetFree.of_bodySF (plainFor_of_name pn_hexwright_engine_SealedBids) hisR ?_
  intro p e s m args below meth c s₁ Bd hml0 hP hK
  obtain ⟨rfl, hZ, hh⟩ := hP
  have hx := Bd.exec
  have hby := Bd.bytes
  have hml : c.maxLocals = 2 := hml0
  have hown : s.vm.findClass "hexwright/engine/SealedBids" = some m.cls := findClass_of_methodNamed Bd.named
  have hnm := (name_of_methodNamed Bd.named Bd.method).1
  have X0 : Stand p l e R_0_0_0_0 s m #[(.ref c0_a), (.int 1)] below meth c s₁ [] 0 0 := Stand.of_body Bd
  have e0 : s₁.heap = h0 := by rw [← hh, Bd.state]; rfl
  have N0 := Fr.nil n0
  obtain ⟨T1, X1, e1, st1⟩ := getF X0 hx hZ hown (host := "") (Or.inl (tw_12 hw)) Via.refl e0 f1 (g := (mkF m 1 #[.val (.ref c0_a), .val (.int 1)] [(.ref c0_a)])) rfl rfl (hb hby d5_1)
  have va2 := f2
  obtain ⟨cl2, Ar2, -, S2, -, H2, -⟩ := va2
  have hin2 : ¬ ((0 : Int32) < 0 ∨ cl2.slots.size ≤ ((0 : Int32)).toNatClampNeg) := inb_of S2 ⟨by decide, by decide⟩
  have hat2 : cl2.slots[((0 : Int32)).toNatClampNeg]? = some .null := H2 _ (Nat.lt_of_not_le fun y => hin2 (Or.inr y))
  obtain ⟨fs, hr, hrun, hended, hW, hsame⟩ := X1.leave (v := (some (.int 0))) (fun h => by rw [Bd.returns] at h; cases h)
  refine ⟨_, _, castTop (ef5_RI m c0_a (1 : Int32)) ?_, hrun, hended, _, _, rfl, ?_, ⟨_, rfl⟩, hW, hsame.mono (by decide) (by decide)⟩
  · show Steps p.tables e below (s₁.setTop (mkF m 0 #[.val (.ref c0_a), .val (.int 1)] [])) _
    refine XS.aloadN X0.here hx rfl (hb hby d5_0) rfl rfl ?_
    show Steps p.tables e below (s₁.setTop (mkF m 1 #[.val (.ref c0_a), .val (.int 1)] [(.ref c0_a)])) _
    refine st1 _ ?_
    refine XS.iloadN X1.here hx rfl (hb hby d5_4) rfl ?_
    refine XS.iconst X1.here hx rfl (hb hby d5_5) ?_
    show Steps p.tables e below (T1.setTop (mkF m 6 #[.val (.ref c0_a), .val (.int 1)] [(.int 1), (.int 1), (.ref c1_a)])) _
    refine XS.isub X1.here hx rfl (hb hby d5_6) rfl ?_
    show Steps p.tables e below (T1.setTop (mkF m 7 #[.val (.ref c0_a), .val (.int 1)] [(.int ((1 : Int32) - (1 : Int32))), (.ref c1_a)])) _
    rw [show ((1 : Int32) - (1 : Int32)) = (0 : Int32) from by decide]
    show Steps p.tables e below (T1.setTop (mkF m 7 #[.val (.ref c0_a), .val (.int 1)] [(.int 0), (.ref c1_a)])) _
    refine X1.aaload hx (j := (0 : Int32)) (v := .null) (by rw [e1]; exact Ar2.1) (State.isArrayOf_alike hZ.alike Ar2.2.1) rfl Ar2.2.2 hin2 hat2 (g := (mkF m 7 #[.val (.ref c0_a), .val (.int 1)] [(.int 0), (.ref c1_a)])) rfl rfl (hb hby d5_7) _ ?_
    refine XS.ifnullYes X1.here hx rfl (pc0 := 8) (pc' := 15) rfl (hb hby d5_8) rfl (by decide) (by decide) ?_
    refine XS.iconst X1.here hx rfl (hb hby d5_15) ?_
    show Steps p.tables e below (T1.setTop (mkF m 16 #[.val (.ref c0_a), .val (.int 1)] [(.int 0)])) _
    exact retN X1 hx (t := .boolean) Bd.returns (by simp) (hb hby d5_16) hr
  · show QP (some (.int 0)) h0 n0 _ T1.heap _
    rw [e1]
    exact ⟨rfl, N0, rfl⟩
set_option maxRecDepth 65536 in
set_option maxHeartbeats 40000000 in
theorem sg161_124 {p : Program} {l : Launch} {e : Env} {s : State} {m : MethodId} {below : List Frame} {meth : Method} {c : Code} {T0 : State} {locs : List Loc} {Z : State} {a0 : Array Value} (p0 : Int32) (p1 : Int32) (p2 : Int64) (gq4 : Int32) (gq6 : Int32) (gq7 : Int32) (gq8 : Int32) (jam : Int64) (gq11 : Int64) (c0_a : Addr) (c1_a : Addr) (c2_k : ClassId) (gx1 : Value) (gx2 : Value) {h0 : Heap} {n0 : Nat} (X0 : Stand p l e room_1 s m #[(.int p0), (.int p1), (.long p2)] below meth c T0 locs 6 8) (hx : p.tables.exec = Jvm.exec) (hZ : Z.Warmed39 s.vm) (hw : ∀ d ∈ tables_1, d.before a0 Z = true) (hby : c.code = code) (hml : c.maxLocals = 15) (hown : s.vm.findClass "hexwright/engine/SealedBidsHasBidPinLaw" = some m.cls) (e0 : T0.heap = h0) (N0 : Fr n0 locs) (Z0 : n0 ≤ h0.size) (f1 : F_0 Z h0 c0_a (.ref c1_a)) (f2 : Arv Z h0 c1_a c2_k (.object "java/lang/Long") (3 : Int32) [.null, gx1, gx2] .null) (f3 : E_1 Z h0 c0_a) :
    ∃ (T : State) (L : List Loc), Stand p l e room_1 s m #[(.int p0), (.int p1), (.long p2)] below meth c T L 6 8 ∧ T.heap = h0 ∧ Fr n0 L ∧ (∀ target, Steps p.tables e below (T.setTop (mkF m 179 #[.val (.int p0), .val (.int p1), .val (.long p2), .second, .val (.int gq4), .val (.int 0), .val (.int gq6), .val (.int gq7), .val (.int gq8), .val (.long jam), .second, .val (.long gq11), .second, .val (.ref c0_a), .val (.int 1)] [])) target → Steps p.tables e below (T0.setTop (mkF m 161 #[.val (.int p0), .val (.int p1), .val (.long p2), .second, .val (.int gq4), .val (.int 0), .val (.int gq6), .val (.int gq7), .val (.int gq8), .val (.long jam), .second, .val (.long gq11), .second, .val (.ref c0_a), .unset] [])) target) := by
  -- pc 164: hexwright/engine/SealedBids.hasBid
  obtain ⟨cq1, kq1, q1a, q1b, q1c⟩ := isOf hZ e0 f3
  obtain ⟨_, _, ⟨T1, L1, k1, n1⟩, -, X1, ⟨Lc1, hQ1, l1, y1, z1⟩, st1⟩ := X0.virtualBack hx (y := M_1) (z := M_1) hown (mvT hZ (tw_28 hw)) (mvT hZ (tw_29 hw)) (notFace_of_selects (args := #[]) (mvT hZ (tw_31 hw))) (mvT hZ (tw_31 hw)) (mvT hZ (tw_30 hw)) (by decide) (backOf (W := 0) (rm5_123 l Z a0 hw [] c0_a c1_a c2_k gx1 gx2 h0 n0 Z0 f1 f2) hZ (tw_32 hw) (tw_3 hw) (by decide) (by decide)) q1a q1c (g := (mkF m 164 #[.val (.int p0), .val (.int p1), .val (.long p2), .second, .val (.int gq4), .val (.int 0), .val (.int gq6), .val (.int gq7), .val (.int gq8), .val (.long jam), .second, .val (.long gq11), .second, .val (.ref c0_a), .unset] [(.int 1), (.ref c0_a)])) rfl (by rw [hml]; rfl) (Steps.refl _) (argsL := [(.int 1)]) (rest := []) (lenOf pd_1 rfl) rfl (by show 2 * 0 + _ ≤ _; exact Nat.le_of_eq rfl) (hb hby at_164) (fun _ _ => ⟨rfl, e0, (by decide : 6 + 0 ≤ _), (by decide : 8 + 0 ≤ _)⟩)
  dsimp only [Pt.U, Pt.locs, Pt.cells, Pt.slots] at X1 l1 y1 z1 st1 hQ1
  subst l1 y1 z1
  obtain ⟨rfl, Nq1, e1⟩ := hQ1
  have N1 := Fr.app N0 Nq1
  refine ⟨T1, _, X1, e1, N1, fun target kt => ?_⟩
  show Steps p.tables e below (T0.setTop (mkF m 161 #[.val (.int p0), .val (.int p1), .val (.long p2), .second, .val (.int gq4), .val (.int 0), .val (.int gq6), .val (.int gq7), .val (.int gq8), .val (.long jam), .second, .val (.long gq11), .second, .val (.ref c0_a), .unset] [])) _
  refine XS.aload X0.here hx rfl (hb hby at_161) rfl rfl ?_
  refine XS.iconst X0.here hx rfl (hb hby at_163) ?_
  show Steps p.tables e below (T0.setTop (mkF m 164 #[.val (.int p0), .val (.int p1), .val (.long p2), .second, .val (.int gq4), .val (.int 0), .val (.int gq6), .val (.int gq7), .val (.int gq8), .val (.long jam), .second, .val (.long gq11), .second, .val (.ref c0_a), .unset] [(.int 1), (.ref c0_a)])) _
  refine st1.trans ?_
  refine XS.iload X1.here hx rfl (hb hby at_167) rfl ?_
  refine XS.icmpNo X1.here hx rfl (hb hby at_169) rfl (by decide) ?_
  refine XS.iconst X1.here hx rfl (hb hby at_172) ?_
  refine XS.goto X1.here hx rfl (pc0 := 173) (pc' := 177) rfl (hb hby at_173) (by decide) (by decide) ?_
  show Steps p.tables e below (T1.setTop (mkF m 177 #[.val (.int p0), .val (.int p1), .val (.long p2), .second, .val (.int gq4), .val (.int 0), .val (.int gq6), .val (.int gq7), .val (.int gq8), .val (.long jam), .second, .val (.long gq11), .second, .val (.ref c0_a), .unset] [(.int 1)])) _
  refine XS.istore X1.here hx rfl (hb hby at_177) rfl (l' := #[.val (.int p0), .val (.int p1), .val (.long p2), .second, .val (.int gq4), .val (.int 0), .val (.int gq6), .val (.int gq7), .val (.int gq8), .val (.long jam), .second, .val (.long gq11), .second, .val (.ref c0_a), .val (.int 1)]) rfl ?_
  show Steps p.tables e below (T1.setTop (mkF m 179 #[.val (.int p0), .val (.int p1), .val (.long p2), .second, .val (.int gq4), .val (.int 0), .val (.int gq6), .val (.int gq7), .val (.int gq8), .val (.long jam), .second, .val (.long gq11), .second, .val (.ref c0_a), .val (.int 1)] [])) _
  exact kt
set_option maxRecDepth 65536 in
set_option maxHeartbeats 40000000 in
theorem rm5_125 (l : Launch) (Z : State) (a0 : Array Value) (hw : ∀ d ∈ tables_1, d.before a0 Z = true) (ws : List Jvm.Cond) (c0_a : Addr) (c1_a : Addr) (c2_k : ClassId) (gx0 : Value) (gx2 : Value) (h0 : Heap) (n0 : Nat) (Z0 : n0 ≤ h0.size) (f1 : F_0 Z h0 c0_a (.ref c1_a)) (f2 : Arv Z h0 c1_a c2_k (.object "java/lang/Long") (3 : Int32) [gx0, .null, gx2] .null) :
    MetFree l M_1 (head1 (Jvm.Cond.code M_1 prog_14_method_4_code 2 (some .boolean) :: ws) R_0_0_0_0) (fun a U => a = #[(.ref c0_a), (.int 2)] ∧ Z.Warmed39 U.vm ∧ U.heap = h0) (fun _ _ _ _ _ => True) (fun _ U o U' => ∃ v L, o = .returned v ∧ QP (some (.int 0)) h0 n0 v U'.heap L ∧ FrameEnd U o U' L R_0_0_0_0.cells R_0_0_0_0.slots) := by
  refine MetFree.of_bodySF (plainFor_of_name pn_hexwright_engine_SealedBids) hisR ?_
  intro p e s m args below meth c s₁ Bd hml0 hP hK
  obtain ⟨rfl, hZ, hh⟩ := hP
  have hx := Bd.exec
  have hby := Bd.bytes
  have hml : c.maxLocals = 2 := hml0
  have hown : s.vm.findClass "hexwright/engine/SealedBids" = some m.cls := findClass_of_methodNamed Bd.named
  have hnm := (name_of_methodNamed Bd.named Bd.method).1
  have X0 : Stand p l e R_0_0_0_0 s m #[(.ref c0_a), (.int 2)] below meth c s₁ [] 0 0 := Stand.of_body Bd
  have e0 : s₁.heap = h0 := by rw [← hh, Bd.state]; rfl
  have N0 := Fr.nil n0
  obtain ⟨T1, X1, e1, st1⟩ := getF X0 hx hZ hown (host := "") (Or.inl (tw_12 hw)) Via.refl e0 f1 (g := (mkF m 1 #[.val (.ref c0_a), .val (.int 2)] [(.ref c0_a)])) rfl rfl (hb hby d5_1)
  have va2 := f2
  obtain ⟨cl2, Ar2, -, S2, -, H2, -⟩ := va2
  have hin2 : ¬ ((1 : Int32) < 0 ∨ cl2.slots.size ≤ ((1 : Int32)).toNatClampNeg) := inb_of S2 ⟨by decide, by decide⟩
  have hat2 : cl2.slots[((1 : Int32)).toNatClampNeg]? = some .null := H2 _ (Nat.lt_of_not_le fun y => hin2 (Or.inr y))
  obtain ⟨fs, hr, hrun, hended, hW, hsame⟩ := X1.leave (v := (some (.int 0))) (fun h => by rw [Bd.returns] at h; cases h)
  refine ⟨_, _, castTop (ef5_RI m c0_a (2 : Int32)) ?_, hrun, hended, _, _, rfl, ?_, ⟨_, rfl⟩, hW, hsame.mono (by decide) (by decide)⟩
  · show Steps p.tables e below (s₁.setTop (mkF m 0 #[.val (.ref c0_a), .val (.int 2)] [])) _
    refine XS.aloadN X0.here hx rfl (hb hby d5_0) rfl rfl ?_
    show Steps p.tables e below (s₁.setTop (mkF m 1 #[.val (.ref c0_a), .val (.int 2)] [(.ref c0_a)])) _
    refine st1 _ ?_
    refine XS.iloadN X1.here hx rfl (hb hby d5_4) rfl ?_
    refine XS.iconst X1.here hx rfl (hb hby d5_5) ?_
    show Steps p.tables e below (T1.setTop (mkF m 6 #[.val (.ref c0_a), .val (.int 2)] [(.int 1), (.int 2), (.ref c1_a)])) _
    refine XS.isub X1.here hx rfl (hb hby d5_6) rfl ?_
    show Steps p.tables e below (T1.setTop (mkF m 7 #[.val (.ref c0_a), .val (.int 2)] [(.int ((2 : Int32) - (1 : Int32))), (.ref c1_a)])) _
    rw [show ((2 : Int32) - (1 : Int32)) = (1 : Int32) from by decide]
    show Steps p.tables e below (T1.setTop (mkF m 7 #[.val (.ref c0_a), .val (.int 2)] [(.int 1), (.ref c1_a)])) _
    refine X1.aaload hx (j := (1 : Int32)) (v := .null) (by rw [e1]; exact Ar2.1) (State.isArrayOf_alike hZ.alike Ar2.2.1) rfl Ar2.2.2 hin2 hat2 (g := (mkF m 7 #[.val (.ref c0_a), .val (.int 2)] [(.int 1), (.ref c1_a)])) rfl rfl (hb hby d5_7) _ ?_
    refine XS.ifnullYes X1.here hx rfl (pc0 := 8) (pc' := 15) rfl (hb hby d5_8) rfl (by decide) (by decide) ?_
    refine XS.iconst X1.here hx rfl (hb hby d5_15) ?_
    show Steps p.tables e below (T1.setTop (mkF m 16 #[.val (.ref c0_a), .val (.int 2)] [(.int 0)])) _
    exact retN X1 hx (t := .boolean) Bd.returns (by simp) (hb hby d5_16) hr
  · show QP (some (.int 0)) h0 n0 _ T1.heap _
    rw [e1]
    exact ⟨rfl, N0, rfl⟩
set_option maxRecDepth 65536 in
set_option maxHeartbeats 40000000 in
theorem sg179_126 {p : Program} {l : Launch} {e : Env} {s : State} {m : MethodId} {below : List Frame} {meth : Method} {c : Code} {T0 : State} {locs : List Loc} {Z : State} {a0 : Array Value} (p0 : Int32) (p1 : Int32) (p2 : Int64) (gq5 : Int32) (gq7 : Int32) (gq8 : Int32) (jam : Int64) (gq11 : Int64) (c0_a : Addr) (c1_a : Addr) (c2_k : ClassId) (gx0 : Value) (gx2 : Value) {h0 : Heap} {n0 : Nat} (X0 : Stand p l e room_1 s m #[(.int p0), (.int p1), (.long p2)] below meth c T0 locs 6 8) (hx : p.tables.exec = Jvm.exec) (hZ : Z.Warmed39 s.vm) (hw : ∀ d ∈ tables_1, d.before a0 Z = true) (hby : c.code = code) (hml : c.maxLocals = 15) (hown : s.vm.findClass "hexwright/engine/SealedBidsHasBidPinLaw" = some m.cls) (e0 : T0.heap = h0) (N0 : Fr n0 locs) (Z0 : n0 ≤ h0.size) (f1 : F_0 Z h0 c0_a (.ref c1_a)) (f2 : Arv Z h0 c1_a c2_k (.object "java/lang/Long") (3 : Int32) [gx0, .null, gx2] .null) (f3 : E_1 Z h0 c0_a) :
    ∃ (T : State) (L : List Loc), Stand p l e room_1 s m #[(.int p0), (.int p1), (.long p2)] below meth c T L 6 8 ∧ T.heap = h0 ∧ Fr n0 L ∧ (∀ target, Steps p.tables e below (T.setTop (mkF m 208 #[.val (.int p0), .val (.int p1), .val (.long p2), .second, .val (.int 3), .val (.int gq5), .val (.int 0), .val (.int gq7), .val (.int gq8), .val (.long jam), .second, .val (.long gq11), .second, .val (.ref c0_a), .val (.int 1)] [])) target → Steps p.tables e below (T0.setTop (mkF m 179 #[.val (.int p0), .val (.int p1), .val (.long p2), .second, .val (.int 3), .val (.int gq5), .val (.int 0), .val (.int gq7), .val (.int gq8), .val (.long jam), .second, .val (.long gq11), .second, .val (.ref c0_a), .val (.int 1)] [])) target) := by
  -- pc 193: hexwright/engine/SealedBids.hasBid
  obtain ⟨cq1, kq1, q1a, q1b, q1c⟩ := isOf hZ e0 f3
  obtain ⟨_, _, ⟨T1, L1, k1, n1⟩, -, X1, ⟨Lc1, hQ1, l1, y1, z1⟩, st1⟩ := X0.virtualBack hx (y := M_1) (z := M_1) hown (mvT hZ (tw_28 hw)) (mvT hZ (tw_29 hw)) (notFace_of_selects (args := #[]) (mvT hZ (tw_31 hw))) (mvT hZ (tw_31 hw)) (mvT hZ (tw_30 hw)) (by decide) (backOf (W := 0) (rm5_125 l Z a0 hw [] c0_a c1_a c2_k gx0 gx2 h0 n0 Z0 f1 f2) hZ (tw_32 hw) (tw_3 hw) (by decide) (by decide)) q1a q1c (g := (mkF m 193 #[.val (.int p0), .val (.int p1), .val (.long p2), .second, .val (.int 3), .val (.int gq5), .val (.int 0), .val (.int gq7), .val (.int gq8), .val (.long jam), .second, .val (.long gq11), .second, .val (.ref c0_a), .val (.int 1)] [(.int 2), (.ref c0_a)])) rfl (by rw [hml]; rfl) (Steps.refl _) (argsL := [(.int 2)]) (rest := []) (lenOf pd_1 rfl) rfl (by show 2 * 0 + _ ≤ _; exact Nat.le_of_eq rfl) (hb hby at_193) (fun _ _ => ⟨rfl, e0, (by decide : 6 + 0 ≤ _), (by decide : 8 + 0 ≤ _)⟩)
  dsimp only [Pt.U, Pt.locs, Pt.cells, Pt.slots] at X1 l1 y1 z1 st1 hQ1
  subst l1 y1 z1
  obtain ⟨rfl, Nq1, e1⟩ := hQ1
  have N1 := Fr.app N0 Nq1
  refine ⟨T1, _, X1, e1, N1, fun target kt => ?_⟩
  show Steps p.tables e below (T0.setTop (mkF m 179 #[.val (.int p0), .val (.int p1), .val (.long p2), .second, .val (.int 3), .val (.int gq5), .val (.int 0), .val (.int gq7), .val (.int gq8), .val (.long jam), .second, .val (.long gq11), .second, .val (.ref c0_a), .val (.int 1)] [])) _
  refine XS.iload X0.here hx rfl (hb hby at_179) rfl ?_
  refine XS.iconst X0.here hx rfl (hb hby at_181) ?_
  refine XS.icmpNo X0.here hx rfl (hb hby at_182) rfl (by decide) ?_
  refine XS.iload X0.here hx rfl (hb hby at_185) rfl ?_
  refine XS.ifNo X0.here hx rfl (hb hby at_187) rfl (by decide) ?_
  show Steps p.tables e below (T0.setTop (mkF m 190 #[.val (.int p0), .val (.int p1), .val (.long p2), .second, .val (.int 3), .val (.int gq5), .val (.int 0), .val (.int gq7), .val (.int gq8), .val (.long jam), .second, .val (.long gq11), .second, .val (.ref c0_a), .val (.int 1)] [])) _
  refine XS.aload X0.here hx rfl (hb hby at_190) rfl rfl ?_
  refine XS.iconst X0.here hx rfl (hb hby at_192) ?_
  show Steps p.tables e below (T0.setTop (mkF m 193 #[.val (.int p0), .val (.int p1), .val (.long p2), .second, .val (.int 3), .val (.int gq5), .val (.int 0), .val (.int gq7), .val (.int gq8), .val (.long jam), .second, .val (.long gq11), .second, .val (.ref c0_a), .val (.int 1)] [(.int 2), (.ref c0_a)])) _
  refine st1.trans ?_
  refine XS.iload X1.here hx rfl (hb hby at_196) rfl ?_
  refine XS.icmpNo X1.here hx rfl (hb hby at_198) rfl (by decide) ?_
  refine XS.iconst X1.here hx rfl (hb hby at_201) ?_
  refine XS.goto X1.here hx rfl (pc0 := 202) (pc' := 206) rfl (hb hby at_202) (by decide) (by decide) ?_
  show Steps p.tables e below (T1.setTop (mkF m 206 #[.val (.int p0), .val (.int p1), .val (.long p2), .second, .val (.int 3), .val (.int gq5), .val (.int 0), .val (.int gq7), .val (.int gq8), .val (.long jam), .second, .val (.long gq11), .second, .val (.ref c0_a), .val (.int 1)] [(.int 1)])) _
  refine XS.istore X1.here hx rfl (hb hby at_206) rfl (l' := #[.val (.int p0), .val (.int p1), .val (.long p2), .second, .val (.int 3), .val (.int gq5), .val (.int 0), .val (.int gq7), .val (.int gq8), .val (.long jam), .second, .val (.long gq11), .second, .val (.ref c0_a), .val (.int 1)]) rfl ?_
  show Steps p.tables e below (T1.setTop (mkF m 208 #[.val (.int p0), .val (.int p1), .val (.long p2), .second, .val (.int 3), .val (.int gq5), .val (.int 0), .val (.int gq7), .val (.int gq8), .val (.long jam), .second, .val (.long gq11), .second, .val (.ref c0_a), .val (.int 1)] [])) _
  exact kt
set_option maxRecDepth 65536 in
set_option maxHeartbeats 40000000 in
theorem rm5_127 (l : Launch) (Z : State) (a0 : Array Value) (hw : ∀ d ∈ tables_1, d.before a0 Z = true) (ws : List Jvm.Cond) (c0_a : Addr) (c1_a : Addr) (c2_k : ClassId) (gx0 : Value) (gx1 : Value) (h0 : Heap) (n0 : Nat) (Z0 : n0 ≤ h0.size) (f1 : F_0 Z h0 c0_a (.ref c1_a)) (f2 : Arv Z h0 c1_a c2_k (.object "java/lang/Long") (3 : Int32) [gx0, gx1, .null] .null) :
    MetFree l M_1 (head1 (Jvm.Cond.code M_1 prog_14_method_4_code 2 (some .boolean) :: ws) R_0_0_0_0) (fun a U => a = #[(.ref c0_a), (.int 3)] ∧ Z.Warmed39 U.vm ∧ U.heap = h0) (fun _ _ _ _ _ => True) (fun _ U o U' => ∃ v L, o = .returned v ∧ QP (some (.int 0)) h0 n0 v U'.heap L ∧ FrameEnd U o U' L R_0_0_0_0.cells R_0_0_0_0.slots) := by
  refine MetFree.of_bodySF (plainFor_of_name pn_hexwright_engine_SealedBids) hisR ?_
  intro p e s m args below meth c s₁ Bd hml0 hP hK
  obtain ⟨rfl, hZ, hh⟩ := hP
  have hx := Bd.exec
  have hby := Bd.bytes
  have hml : c.maxLocals = 2 := hml0
  have hown : s.vm.findClass "hexwright/engine/SealedBids" = some m.cls := findClass_of_methodNamed Bd.named
  have hnm := (name_of_methodNamed Bd.named Bd.method).1
  have X0 : Stand p l e R_0_0_0_0 s m #[(.ref c0_a), (.int 3)] below meth c s₁ [] 0 0 := Stand.of_body Bd
  have e0 : s₁.heap = h0 := by rw [← hh, Bd.state]; rfl
  have N0 := Fr.nil n0
  obtain ⟨T1, X1, e1, st1⟩ := getF X0 hx hZ hown (host := "") (Or.inl (tw_12 hw)) Via.refl e0 f1 (g := (mkF m 1 #[.val (.ref c0_a), .val (.int 3)] [(.ref c0_a)])) rfl rfl (hb hby d5_1)
  have va2 := f2
  obtain ⟨cl2, Ar2, -, S2, -, H2, -⟩ := va2
  have hin2 : ¬ ((2 : Int32) < 0 ∨ cl2.slots.size ≤ ((2 : Int32)).toNatClampNeg) := inb_of S2 ⟨by decide, by decide⟩
  have hat2 : cl2.slots[((2 : Int32)).toNatClampNeg]? = some .null := H2 _ (Nat.lt_of_not_le fun y => hin2 (Or.inr y))
  obtain ⟨fs, hr, hrun, hended, hW, hsame⟩ := X1.leave (v := (some (.int 0))) (fun h => by rw [Bd.returns] at h; cases h)
  refine ⟨_, _, castTop (ef5_RI m c0_a (3 : Int32)) ?_, hrun, hended, _, _, rfl, ?_, ⟨_, rfl⟩, hW, hsame.mono (by decide) (by decide)⟩
  · show Steps p.tables e below (s₁.setTop (mkF m 0 #[.val (.ref c0_a), .val (.int 3)] [])) _
    refine XS.aloadN X0.here hx rfl (hb hby d5_0) rfl rfl ?_
    show Steps p.tables e below (s₁.setTop (mkF m 1 #[.val (.ref c0_a), .val (.int 3)] [(.ref c0_a)])) _
    refine st1 _ ?_
    refine XS.iloadN X1.here hx rfl (hb hby d5_4) rfl ?_
    refine XS.iconst X1.here hx rfl (hb hby d5_5) ?_
    show Steps p.tables e below (T1.setTop (mkF m 6 #[.val (.ref c0_a), .val (.int 3)] [(.int 1), (.int 3), (.ref c1_a)])) _
    refine XS.isub X1.here hx rfl (hb hby d5_6) rfl ?_
    show Steps p.tables e below (T1.setTop (mkF m 7 #[.val (.ref c0_a), .val (.int 3)] [(.int ((3 : Int32) - (1 : Int32))), (.ref c1_a)])) _
    rw [show ((3 : Int32) - (1 : Int32)) = (2 : Int32) from by decide]
    show Steps p.tables e below (T1.setTop (mkF m 7 #[.val (.ref c0_a), .val (.int 3)] [(.int 2), (.ref c1_a)])) _
    refine X1.aaload hx (j := (2 : Int32)) (v := .null) (by rw [e1]; exact Ar2.1) (State.isArrayOf_alike hZ.alike Ar2.2.1) rfl Ar2.2.2 hin2 hat2 (g := (mkF m 7 #[.val (.ref c0_a), .val (.int 3)] [(.int 2), (.ref c1_a)])) rfl rfl (hb hby d5_7) _ ?_
    refine XS.ifnullYes X1.here hx rfl (pc0 := 8) (pc' := 15) rfl (hb hby d5_8) rfl (by decide) (by decide) ?_
    refine XS.iconst X1.here hx rfl (hb hby d5_15) ?_
    show Steps p.tables e below (T1.setTop (mkF m 16 #[.val (.ref c0_a), .val (.int 3)] [(.int 0)])) _
    exact retN X1 hx (t := .boolean) Bd.returns (by simp) (hb hby d5_16) hr
  · show QP (some (.int 0)) h0 n0 _ T1.heap _
    rw [e1]
    exact ⟨rfl, N0, rfl⟩
set_option maxRecDepth 65536 in
set_option maxHeartbeats 40000000 in
theorem sg208_128 {p : Program} {l : Launch} {e : Env} {s : State} {m : MethodId} {below : List Frame} {meth : Method} {c : Code} {T0 : State} {locs : List Loc} {Z : State} {a0 : Array Value} (p0 : Int32) (p1 : Int32) (p2 : Int64) (gq5 : Int32) (gq6 : Int32) (gq8 : Int32) (jam : Int64) (gq11 : Int64) (c0_a : Addr) (c1_a : Addr) (c2_k : ClassId) (gx0 : Value) (gx1 : Value) {h0 : Heap} {n0 : Nat} (X0 : Stand p l e room_1 s m #[(.int p0), (.int p1), (.long p2)] below meth c T0 locs 6 8) (hx : p.tables.exec = Jvm.exec) (hZ : Z.Warmed39 s.vm) (hw : ∀ d ∈ tables_1, d.before a0 Z = true) (hby : c.code = code) (hml : c.maxLocals = 15) (hown : s.vm.findClass "hexwright/engine/SealedBidsHasBidPinLaw" = some m.cls) (e0 : T0.heap = h0) (N0 : Fr n0 locs) (Z0 : n0 ≤ h0.size) (f1 : F_0 Z h0 c0_a (.ref c1_a)) (f2 : Arv Z h0 c1_a c2_k (.object "java/lang/Long") (3 : Int32) [gx0, gx1, .null] .null) (f3 : E_1 Z h0 c0_a) :
    ∃ (T : State) (L : List Loc), Stand p l e room_1 s m #[(.int p0), (.int p1), (.long p2)] below meth c T L 6 8 ∧ T.heap = h0 ∧ Fr n0 L ∧ (∀ target, Steps p.tables e below (T.setTop (mkF m 237 #[.val (.int p0), .val (.int p1), .val (.long p2), .second, .val (.int 3), .val (.int gq5), .val (.int gq6), .val (.int 0), .val (.int gq8), .val (.long jam), .second, .val (.long gq11), .second, .val (.ref c0_a), .val (.int 1)] [])) target → Steps p.tables e below (T0.setTop (mkF m 208 #[.val (.int p0), .val (.int p1), .val (.long p2), .second, .val (.int 3), .val (.int gq5), .val (.int gq6), .val (.int 0), .val (.int gq8), .val (.long jam), .second, .val (.long gq11), .second, .val (.ref c0_a), .val (.int 1)] [])) target) := by
  -- pc 222: hexwright/engine/SealedBids.hasBid
  obtain ⟨cq1, kq1, q1a, q1b, q1c⟩ := isOf hZ e0 f3
  obtain ⟨_, _, ⟨T1, L1, k1, n1⟩, -, X1, ⟨Lc1, hQ1, l1, y1, z1⟩, st1⟩ := X0.virtualBack hx (y := M_1) (z := M_1) hown (mvT hZ (tw_28 hw)) (mvT hZ (tw_29 hw)) (notFace_of_selects (args := #[]) (mvT hZ (tw_31 hw))) (mvT hZ (tw_31 hw)) (mvT hZ (tw_30 hw)) (by decide) (backOf (W := 0) (rm5_127 l Z a0 hw [] c0_a c1_a c2_k gx0 gx1 h0 n0 Z0 f1 f2) hZ (tw_32 hw) (tw_3 hw) (by decide) (by decide)) q1a q1c (g := (mkF m 222 #[.val (.int p0), .val (.int p1), .val (.long p2), .second, .val (.int 3), .val (.int gq5), .val (.int gq6), .val (.int 0), .val (.int gq8), .val (.long jam), .second, .val (.long gq11), .second, .val (.ref c0_a), .val (.int 1)] [(.int 3), (.ref c0_a)])) rfl (by rw [hml]; rfl) (Steps.refl _) (argsL := [(.int 3)]) (rest := []) (lenOf pd_1 rfl) rfl (by show 2 * 0 + _ ≤ _; exact Nat.le_of_eq rfl) (hb hby at_222) (fun _ _ => ⟨rfl, e0, (by decide : 6 + 0 ≤ _), (by decide : 8 + 0 ≤ _)⟩)
  dsimp only [Pt.U, Pt.locs, Pt.cells, Pt.slots] at X1 l1 y1 z1 st1 hQ1
  subst l1 y1 z1
  obtain ⟨rfl, Nq1, e1⟩ := hQ1
  have N1 := Fr.app N0 Nq1
  refine ⟨T1, _, X1, e1, N1, fun target kt => ?_⟩
  show Steps p.tables e below (T0.setTop (mkF m 208 #[.val (.int p0), .val (.int p1), .val (.long p2), .second, .val (.int 3), .val (.int gq5), .val (.int gq6), .val (.int 0), .val (.int gq8), .val (.long jam), .second, .val (.long gq11), .second, .val (.ref c0_a), .val (.int 1)] [])) _
  refine XS.iload X0.here hx rfl (hb hby at_208) rfl ?_
  refine XS.iconst X0.here hx rfl (hb hby at_210) ?_
  refine XS.icmpNo X0.here hx rfl (hb hby at_211) rfl (by decide) ?_
  refine XS.iload X0.here hx rfl (hb hby at_214) rfl ?_
  refine XS.ifNo X0.here hx rfl (hb hby at_216) rfl (by decide) ?_
  show Steps p.tables e below (T0.setTop (mkF m 219 #[.val (.int p0), .val (.int p1), .val (.long p2), .second, .val (.int 3), .val (.int gq5), .val (.int gq6), .val (.int 0), .val (.int gq8), .val (.long jam), .second, .val (.long gq11), .second, .val (.ref c0_a), .val (.int 1)] [])) _
  refine XS.aload X0.here hx rfl (hb hby at_219) rfl rfl ?_
  refine XS.iconst X0.here hx rfl (hb hby at_221) ?_
  show Steps p.tables e below (T0.setTop (mkF m 222 #[.val (.int p0), .val (.int p1), .val (.long p2), .second, .val (.int 3), .val (.int gq5), .val (.int gq6), .val (.int 0), .val (.int gq8), .val (.long jam), .second, .val (.long gq11), .second, .val (.ref c0_a), .val (.int 1)] [(.int 3), (.ref c0_a)])) _
  refine st1.trans ?_
  refine XS.iload X1.here hx rfl (hb hby at_225) rfl ?_
  refine XS.icmpNo X1.here hx rfl (hb hby at_227) rfl (by decide) ?_
  refine XS.iconst X1.here hx rfl (hb hby at_230) ?_
  refine XS.goto X1.here hx rfl (pc0 := 231) (pc' := 235) rfl (hb hby at_231) (by decide) (by decide) ?_
  show Steps p.tables e below (T1.setTop (mkF m 235 #[.val (.int p0), .val (.int p1), .val (.long p2), .second, .val (.int 3), .val (.int gq5), .val (.int gq6), .val (.int 0), .val (.int gq8), .val (.long jam), .second, .val (.long gq11), .second, .val (.ref c0_a), .val (.int 1)] [(.int 1)])) _
  refine XS.istore X1.here hx rfl (hb hby at_235) rfl (l' := #[.val (.int p0), .val (.int p1), .val (.long p2), .second, .val (.int 3), .val (.int gq5), .val (.int gq6), .val (.int 0), .val (.int gq8), .val (.long jam), .second, .val (.long gq11), .second, .val (.ref c0_a), .val (.int 1)]) rfl ?_
  show Steps p.tables e below (T1.setTop (mkF m 237 #[.val (.int p0), .val (.int p1), .val (.long p2), .second, .val (.int 3), .val (.int gq5), .val (.int gq6), .val (.int 0), .val (.int gq8), .val (.long jam), .second, .val (.long gq11), .second, .val (.ref c0_a), .val (.int 1)] [])) _
  exact kt
set_option maxRecDepth 65536 in
set_option maxHeartbeats 40000000 in
theorem sg237_129 {p : Program} {l : Launch} {e : Env} {s : State} {m : MethodId} {below : List Frame} {meth : Method} {c : Code} {T0 : State} {locs : List Loc} {Z : State} {a0 : Array Value} (p0 : Int32) (p1 : Int32) (p2 : Int64) (gq5 : Int32) (gq6 : Int32) (gq7 : Int32) (jam : Int64) (gq11 : Int64) (c0_a : Addr) {h0 : Heap} {n0 : Nat} (X0 : Stand p l e room_1 s m #[(.int p0), (.int p1), (.long p2)] below meth c T0 locs 6 8) (hx : p.tables.exec = Jvm.exec) (hZ : Z.Warmed39 s.vm) (hw : ∀ d ∈ tables_1, d.before a0 Z = true) (hby : c.code = code) (hml : c.maxLocals = 15) (hown : s.vm.findClass "hexwright/engine/SealedBidsHasBidPinLaw" = some m.cls) (e0 : T0.heap = h0) (N0 : Fr n0 locs) (Z0 : n0 ≤ h0.size) :
    ∃ (T : State) (L : List Loc), Stand p l e room_1 s m #[(.int p0), (.int p1), (.long p2)] below meth c T L 6 8 ∧ T.heap = h0 ∧ Fr n0 L ∧ (∀ target, Steps p.tables e below (T.setTop (mkF m 266 #[.val (.int p0), .val (.int p1), .val (.long p2), .second, .val (.int 3), .val (.int gq5), .val (.int gq6), .val (.int gq7), .val (.int 0), .val (.long jam), .second, .val (.long gq11), .second, .val (.ref c0_a), .val (.int 1)] [])) target → Steps p.tables e below (T0.setTop (mkF m 237 #[.val (.int p0), .val (.int p1), .val (.long p2), .second, .val (.int 3), .val (.int gq5), .val (.int gq6), .val (.int gq7), .val (.int 0), .val (.long jam), .second, .val (.long gq11), .second, .val (.ref c0_a), .val (.int 1)] [])) target) := by
  refine ⟨T0, _, X0, e0, N0, fun target kt => ?_⟩
  show Steps p.tables e below (T0.setTop (mkF m 237 #[.val (.int p0), .val (.int p1), .val (.long p2), .second, .val (.int 3), .val (.int gq5), .val (.int gq6), .val (.int gq7), .val (.int 0), .val (.long jam), .second, .val (.long gq11), .second, .val (.ref c0_a), .val (.int 1)] [])) _
  refine XS.iload X0.here hx rfl (hb hby at_237) rfl ?_
  refine XS.iconst X0.here hx rfl (hb hby at_239) ?_
  refine XS.icmpYes X0.here hx rfl (pc0 := 240) (pc' := 266) rfl (hb hby at_240) rfl (by decide) (by decide) (by decide) ?_
  show Steps p.tables e below (T0.setTop (mkF m 266 #[.val (.int p0), .val (.int p1), .val (.long p2), .second, .val (.int 3), .val (.int gq5), .val (.int gq6), .val (.int gq7), .val (.int 0), .val (.long jam), .second, .val (.long gq11), .second, .val (.ref c0_a), .val (.int 1)] [])) _
  exact kt
set_option maxRecDepth 65536 in
set_option maxHeartbeats 40000000 in
theorem rm0_130 (l : Launch) (Z : State) (a0 : Array Value) (hw : ∀ d ∈ tables_1, d.before a0 Z = true) (ws : List Jvm.Cond) (p0 : Int32) (p1 : Int32) (p2 : Int64) (jam : Int64) (h0 : Heap) (n0 : Nat) (Z0 : n0 ≤ h0.size) (f1 : (p0 &&& (3 : Int32)) = (2 : Int32)) (f2 : (p1 &&& (1 : Int32)) = (0 : Int32)) (f3 : (p1 &&& (2 : Int32)) = (0 : Int32)) (f4 : (p1 &&& (4 : Int32)) = (0 : Int32)) (f5 : (p2 &&& (9223372036854775807 : Int64)) = jam) :
    MetFree l x (head1 (Jvm.Cond.code x code maxLocals ret :: ws) room_1) (fun a U => a = #[(.int p0), (.int p1), (.long p2)] ∧ Z.Warmed39 U.vm ∧ U.heap = h0) (fun _ _ _ _ _ => True) (fun _ U o U' => ∃ v L, o = .returned v ∧ QT n0 v U'.heap L ∧ FrameEnd U o U' L room_1.cells room_1.slots) := by
  refine MetFree.of_bodySF (plainFor_of_name pn_hexwright_engine_SealedBidsHasBidPinLaw) hisR ?_
  intro p e s m args below meth c s₁ Bd hml0 hP hK
  obtain ⟨rfl, hZ, hh⟩ := hP
  have hx := Bd.exec
  have hby := Bd.bytes
  have hml : c.maxLocals = 15 := hml0
  have hown : s.vm.findClass "hexwright/engine/SealedBidsHasBidPinLaw" = some m.cls := findClass_of_methodNamed Bd.named
  have hnm := (name_of_methodNamed Bd.named Bd.method).1
  have X0 : Stand p l e room_1 s m #[(.int p0), (.int p1), (.long p2)] below meth c s₁ [] 0 0 := Stand.of_body Bd
  have e0 : s₁.heap = h0 := by rw [← hh, Bd.state]; rfl
  have N0 := Fr.nil n0
  obtain ⟨T1, L1, X1, e1, N1, st1⟩ := sg7_1 p0 p1 p2 (3 : Int32) X0 hx hZ hw hby hml hown e0 N0 Z0 f2
  obtain ⟨T2, L2, X2, e2, N2, st2⟩ := sg20_105 p0 p1 p2 (0 : Int32) X1 hx hZ hw hby hml hown e1 N1 Z0 f3
  obtain ⟨T3, L3, X3, e3, N3, st3⟩ := sg39_106 p0 p1 p2 (0 : Int32) (0 : Int32) X2 hx hZ hw hby hml hown e2 N2 Z0 f4
  obtain ⟨T4, L4, X4, e4, N4, st4⟩ := sg58_107 p0 p1 p2 (0 : Int32) (0 : Int32) (0 : Int32) X3 hx hZ hw hby hml hown e3 N3 Z0 
  obtain ⟨T5, L5, X5, e5, N5, st5⟩ := sg78_5 p0 p1 p2 (3 : Int32) (0 : Int32) (0 : Int32) (0 : Int32) (0 : Int32) jam X4 hx hZ hw hby hml hown e4 N4 Z0 f5
  obtain ⟨T6, h6, L6, b116, b117, kc118, X6, e6, N6, K6, le_b116, le_b117, o6_0, o6_1, o6_2, o6_3, o6_4, st6⟩ := sg90_115 p0 p1 p2 (0 : Int32) (0 : Int32) (0 : Int32) (0 : Int32) jam (9223372036854775807 : Int64) X5 hx hZ hw hby hml hown e5 N5 Z0 
  have sz_b116 : h0.size ≤ b116 := Nat.le_trans (Nat.le_refl _) le_b116
  have g_b116 : n0 ≤ b116 := Nat.le_trans Z0 sz_b116
  have sz_b117 : h0.size ≤ b117 := Nat.le_trans (Nat.le_refl _) le_b117
  have g_b117 : n0 ≤ b117 := Nat.le_trans Z0 sz_b117
  have KK6 : Keep h0 h6 [] := (Keep.refl h0 []).trans K6 (fun x hx => nomatch hx)
  obtain ⟨T7, L7, X7, e7, N7, st7⟩ := sg101_119 p0 p1 p2 (3 : Int32) (0 : Int32) (0 : Int32) (0 : Int32) jam b116 X6 hx hZ hw hby hml hown e6 N6 (Nat.le_trans Z0 KK6.1) 
  obtain ⟨T8, L8, X8, e8, N8, st8⟩ := sg116_120 p0 p1 p2 (3 : Int32) (0 : Int32) (0 : Int32) (0 : Int32) jam b116 X7 hx hZ hw hby hml hown e7 N7 (Nat.le_trans Z0 KK6.1) 
  obtain ⟨T9, L9, X9, e9, N9, st9⟩ := sg131_121 p0 p1 p2 (3 : Int32) (0 : Int32) (0 : Int32) (0 : Int32) jam b116 X8 hx hZ hw hby hml hown e8 N8 (Nat.le_trans Z0 KK6.1) 
  obtain ⟨T10, L10, X10, e10, N10, st10⟩ := sg146_122 p0 p1 p2 (3 : Int32) (0 : Int32) (0 : Int32) (0 : Int32) jam b116 X9 hx hZ hw hby hml hown e9 N9 (Nat.le_trans Z0 KK6.1) 
  obtain ⟨T11, L11, X11, e11, N11, st11⟩ := sg161_124 p0 p1 p2 (3 : Int32) (0 : Int32) (0 : Int32) (0 : Int32) jam (9223372036854775807 : Int64) b116 b117 kc118 .null .null X10 hx hZ hw hby hml hown e10 N10 (Nat.le_trans Z0 KK6.1) o6_1 o6_2 o6_0
  obtain ⟨T12, L12, X12, e12, N12, st12⟩ := sg179_126 p0 p1 p2 (0 : Int32) (0 : Int32) (0 : Int32) jam (9223372036854775807 : Int64) b116 b117 kc118 .null .null X11 hx hZ hw hby hml hown e11 N11 (Nat.le_trans Z0 KK6.1) o6_1 o6_2 o6_0
  obtain ⟨T13, L13, X13, e13, N13, st13⟩ := sg208_128 p0 p1 p2 (0 : Int32) (0 : Int32) (0 : Int32) jam (9223372036854775807 : Int64) b116 b117 kc118 .null .null X12 hx hZ hw hby hml hown e12 N12 (Nat.le_trans Z0 KK6.1) o6_1 o6_2 o6_0
  obtain ⟨T14, L14, X14, e14, N14, st14⟩ := sg237_129 p0 p1 p2 (0 : Int32) (0 : Int32) (0 : Int32) jam (9223372036854775807 : Int64) b116 X13 hx hZ hw hby hml hown e13 N13 (Nat.le_trans Z0 KK6.1) 
  obtain ⟨fs, hr, hrun, hended, hW, hsame⟩ := X14.leave (v := (some (.int 1))) (fun h => by rw [Bd.returns] at h; cases h)
  refine ⟨_, _, castTop (ef0_IIJ m p0 p1 p2) ?_, hrun, hended, _, _, rfl, ?_, ⟨_, rfl⟩, hW, hsame.mono (by decide) (by decide)⟩
  · show Steps p.tables e below (s₁.setTop (mkF m 0 #[.val (.int p0), .val (.int p1), .val (.long p2), .second, .unset, .unset, .unset, .unset, .unset, .unset, .unset, .unset, .unset, .unset, .unset] [])) _
    refine XS.iloadN X0.here hx rfl (hb hby at_0) rfl ?_
    refine XS.iconst X0.here hx rfl (hb hby at_1) ?_
    show Steps p.tables e below (s₁.setTop (mkF m 2 #[.val (.int p0), .val (.int p1), .val (.long p2), .second, .unset, .unset, .unset, .unset, .unset, .unset, .unset, .unset, .unset, .unset, .unset] [(.int 3), (.int p0)])) _
    refine XS.iand X0.here hx rfl (hb hby at_2) rfl ?_
    show Steps p.tables e below (s₁.setTop (mkF m 3 #[.val (.int p0), .val (.int p1), .val (.long p2), .second, .unset, .unset, .unset, .unset, .unset, .unset, .unset, .unset, .unset, .unset, .unset] [(.int (p0 &&& (3 : Int32)))])) _
    rw [f1]
    refine XS.iconst X0.here hx rfl (hb hby at_3) ?_
    show Steps p.tables e below (s₁.setTop (mkF m 4 #[.val (.int p0), .val (.int p1), .val (.long p2), .second, .unset, .unset, .unset, .unset, .unset, .unset, .unset, .unset, .unset, .unset, .unset] [(.int 1), (.int 2)])) _
    refine XS.iadd X0.here hx rfl (hb hby at_4) rfl ?_
    show Steps p.tables e below (s₁.setTop (mkF m 5 #[.val (.int p0), .val (.int p1), .val (.long p2), .second, .unset, .unset, .unset, .unset, .unset, .unset, .unset, .unset, .unset, .unset, .unset] [(.int ((2 : Int32) + (1 : Int32)))])) _
    rw [show ((2 : Int32) + (1 : Int32)) = (3 : Int32) from by decide]
    refine XS.istore X0.here hx rfl (hb hby at_5) rfl (l' := #[.val (.int p0), .val (.int p1), .val (.long p2), .second, .val (.int 3), .unset, .unset, .unset, .unset, .unset, .unset, .unset, .unset, .unset, .unset]) rfl ?_
    show Steps p.tables e below (s₁.setTop (mkF m 7 #[.val (.int p0), .val (.int p1), .val (.long p2), .second, .val (.int 3), .unset, .unset, .unset, .unset, .unset, .unset, .unset, .unset, .unset, .unset] [])) _
    refine st1 _ ?_
    show Steps p.tables e below (T1.setTop (mkF m 20 #[.val (.int p0), .val (.int p1), .val (.long p2), .second, .val (.int 3), .val (.int 0), .unset, .unset, .unset, .unset, .unset, .unset, .unset, .unset, .unset] [])) _
    refine st2 _ ?_
    show Steps p.tables e below (T2.setTop (mkF m 39 #[.val (.int p0), .val (.int p1), .val (.long p2), .second, .val (.int 3), .val (.int 0), .val (.int 0), .unset, .unset, .unset, .unset, .unset, .unset, .unset, .unset] [])) _
    refine st3 _ ?_
    show Steps p.tables e below (T3.setTop (mkF m 58 #[.val (.int p0), .val (.int p1), .val (.long p2), .second, .val (.int 3), .val (.int 0), .val (.int 0), .val (.int 0), .unset, .unset, .unset, .unset, .unset, .unset, .unset] [])) _
    refine st4 _ ?_
    show Steps p.tables e below (T4.setTop (mkF m 78 #[.val (.int p0), .val (.int p1), .val (.long p2), .second, .val (.int 3), .val (.int 0), .val (.int 0), .val (.int 0), .val (.int 0), .unset, .unset, .unset, .unset, .unset, .unset] [])) _
    refine st5 _ ?_
    show Steps p.tables e below (T5.setTop (mkF m 90 #[.val (.int p0), .val (.int p1), .val (.long p2), .second, .val (.int 3), .val (.int 0), .val (.int 0), .val (.int 0), .val (.int 0), .val (.long jam), .second, .val (.long 9223372036854775807), .second, .unset, .unset] [])) _
    refine st6 _ ?_
    show Steps p.tables e below (T6.setTop (mkF m 101 #[.val (.int p0), .val (.int p1), .val (.long p2), .second, .val (.int 3), .val (.int 0), .val (.int 0), .val (.int 0), .val (.int 0), .val (.long jam), .second, .val (.long 9223372036854775807), .second, .val (.ref b116), .unset] [])) _
    refine st7 _ ?_
    show Steps p.tables e below (T7.setTop (mkF m 116 #[.val (.int p0), .val (.int p1), .val (.long p2), .second, .val (.int 3), .val (.int 0), .val (.int 0), .val (.int 0), .val (.int 0), .val (.long jam), .second, .val (.long 9223372036854775807), .second, .val (.ref b116), .unset] [])) _
    refine st8 _ ?_
    show Steps p.tables e below (T8.setTop (mkF m 131 #[.val (.int p0), .val (.int p1), .val (.long p2), .second, .val (.int 3), .val (.int 0), .val (.int 0), .val (.int 0), .val (.int 0), .val (.long jam), .second, .val (.long 9223372036854775807), .second, .val (.ref b116), .unset] [])) _
    refine st9 _ ?_
    show Steps p.tables e below (T9.setTop (mkF m 146 #[.val (.int p0), .val (.int p1), .val (.long p2), .second, .val (.int 3), .val (.int 0), .val (.int 0), .val (.int 0), .val (.int 0), .val (.long jam), .second, .val (.long 9223372036854775807), .second, .val (.ref b116), .unset] [])) _
    refine st10 _ ?_
    show Steps p.tables e below (T10.setTop (mkF m 161 #[.val (.int p0), .val (.int p1), .val (.long p2), .second, .val (.int 3), .val (.int 0), .val (.int 0), .val (.int 0), .val (.int 0), .val (.long jam), .second, .val (.long 9223372036854775807), .second, .val (.ref b116), .unset] [])) _
    refine st11 _ ?_
    show Steps p.tables e below (T11.setTop (mkF m 179 #[.val (.int p0), .val (.int p1), .val (.long p2), .second, .val (.int 3), .val (.int 0), .val (.int 0), .val (.int 0), .val (.int 0), .val (.long jam), .second, .val (.long 9223372036854775807), .second, .val (.ref b116), .val (.int 1)] [])) _
    refine st12 _ ?_
    show Steps p.tables e below (T12.setTop (mkF m 208 #[.val (.int p0), .val (.int p1), .val (.long p2), .second, .val (.int 3), .val (.int 0), .val (.int 0), .val (.int 0), .val (.int 0), .val (.long jam), .second, .val (.long 9223372036854775807), .second, .val (.ref b116), .val (.int 1)] [])) _
    refine st13 _ ?_
    show Steps p.tables e below (T13.setTop (mkF m 237 #[.val (.int p0), .val (.int p1), .val (.long p2), .second, .val (.int 3), .val (.int 0), .val (.int 0), .val (.int 0), .val (.int 0), .val (.long jam), .second, .val (.long 9223372036854775807), .second, .val (.ref b116), .val (.int 1)] [])) _
    refine st14 _ ?_
    refine XS.iload X14.here hx rfl (hb hby at_266) rfl ?_
    show Steps p.tables e below (T14.setTop (mkF m 268 #[.val (.int p0), .val (.int p1), .val (.long p2), .second, .val (.int 3), .val (.int 0), .val (.int 0), .val (.int 0), .val (.int 0), .val (.long jam), .second, .val (.long 9223372036854775807), .second, .val (.ref b116), .val (.int 1)] [(.int 1)])) _
    exact retN X14 hx (t := .boolean) Bd.returns (by simp) (hb hby at_268) hr
  · show QT n0 _ T14.heap _
    rw [e14]
    exact ⟨rfl, N14⟩
set_option maxRecDepth 65536 in
set_option maxHeartbeats 40000000 in
theorem sg39_131 {p : Program} {l : Launch} {e : Env} {s : State} {m : MethodId} {below : List Frame} {meth : Method} {c : Code} {T0 : State} {locs : List Loc} {Z : State} {a0 : Array Value} (p0 : Int32) (p1 : Int32) (p2 : Int64) (gq5 : Int32) (gq6 : Int32) {h0 : Heap} {n0 : Nat} (X0 : Stand p l e room_1 s m #[(.int p0), (.int p1), (.long p2)] below meth c T0 locs 0 0) (hx : p.tables.exec = Jvm.exec) (hZ : Z.Warmed39 s.vm) (hw : ∀ d ∈ tables_1, d.before a0 Z = true) (hby : c.code = code) (hml : c.maxLocals = 15) (hown : s.vm.findClass "hexwright/engine/SealedBidsHasBidPinLaw" = some m.cls) (e0 : T0.heap = h0) (N0 : Fr n0 locs) (Z0 : n0 ≤ h0.size) (f1 : ¬ ((p1 &&& (4 : Int32)) = (0 : Int32))) :
    ∃ (T : State) (L : List Loc), Stand p l e room_1 s m #[(.int p0), (.int p1), (.long p2)] below meth c T L 0 0 ∧ T.heap = h0 ∧ Fr n0 L ∧ (∀ target, Steps p.tables e below (T.setTop (mkF m 58 #[.val (.int p0), .val (.int p1), .val (.long p2), .second, .val (.int 3), .val (.int gq5), .val (.int gq6), .val (.int 1), .unset, .unset, .unset, .unset, .unset, .unset, .unset] [])) target → Steps p.tables e below (T0.setTop (mkF m 39 #[.val (.int p0), .val (.int p1), .val (.long p2), .second, .val (.int 3), .val (.int gq5), .val (.int gq6), .unset, .unset, .unset, .unset, .unset, .unset, .unset, .unset] [])) target) := by
  refine ⟨T0, _, X0, e0, N0, fun target kt => ?_⟩
  show Steps p.tables e below (T0.setTop (mkF m 39 #[.val (.int p0), .val (.int p1), .val (.long p2), .second, .val (.int 3), .val (.int gq5), .val (.int gq6), .unset, .unset, .unset, .unset, .unset, .unset, .unset, .unset] [])) _
  refine XS.iload X0.here hx rfl (hb hby at_39) rfl ?_
  refine XS.iconst X0.here hx rfl (hb hby at_41) ?_
  refine XS.icmpNo X0.here hx rfl (hb hby at_42) rfl (by decide) ?_
  refine XS.iloadN X0.here hx rfl (hb hby at_45) rfl ?_
  refine XS.iconst X0.here hx rfl (hb hby at_46) ?_
  show Steps p.tables e below (T0.setTop (mkF m 47 #[.val (.int p0), .val (.int p1), .val (.long p2), .second, .val (.int 3), .val (.int gq5), .val (.int gq6), .unset, .unset, .unset, .unset, .unset, .unset, .unset, .unset] [(.int 4), (.int p1)])) _
  refine XS.iand X0.here hx rfl (hb hby at_47) rfl ?_
  refine XS.ifNo X0.here hx rfl (hb hby at_48) rfl ((if0 _ _).trans (feq (f1 : ¬ ((p1 &&& (4 : Int32)) = (0 : Int32)))).1) ?_
  refine XS.iconst X0.here hx rfl (hb hby at_51) ?_
  refine XS.goto X0.here hx rfl (pc0 := 52) (pc' := 56) rfl (hb hby at_52) (by decide) (by decide) ?_
  refine XS.istore X0.here hx rfl (hb hby at_56) rfl (l' := #[.val (.int p0), .val (.int p1), .val (.long p2), .second, .val (.int 3), .val (.int gq5), .val (.int gq6), .val (.int 1), .unset, .unset, .unset, .unset, .unset, .unset, .unset]) rfl ?_
  show Steps p.tables e below (T0.setTop (mkF m 58 #[.val (.int p0), .val (.int p1), .val (.long p2), .second, .val (.int 3), .val (.int gq5), .val (.int gq6), .val (.int 1), .unset, .unset, .unset, .unset, .unset, .unset, .unset] [])) _
  exact kt
def Q3_137 (Z : State) (c1_a : Addr) (c2_k : ClassId) (gx0 : Value) (gx1 : Value) (h0 : Heap) (n0 : Nat) (v : Option Value) (h : Heap) (L : List Loc) : Prop := ∃ (bx135 : Addr), v = none ∧ Fr n0 L ∧ Keep h0 h [c1_a] ∧ Arv Z h c1_a c2_k (.object "java/lang/Long") (3 : Int32) [gx0, gx1, (.ref bx135)] .null
set_option maxRecDepth 65536 in
set_option maxHeartbeats 40000000 in
theorem rm3_136 (l : Launch) (Z : State) (a0 : Array Value) (hw : ∀ d ∈ tables_1, d.before a0 Z = true) (ws : List Jvm.Cond) (c0_a : Addr) (jam : Int64) (c1_a : Addr) (c2_k : ClassId) (gx0 : Value) (gx1 : Value) (a_cache : Addr) (h0 : Heap) (n0 : Nat) (Z0 : n0 ≤ h0.size) (f1 : F_0 Z h0 c0_a (.ref c1_a)) (f2 : Arv Z h0 c1_a c2_k (.object "java/lang/Long") (3 : Int32) [gx0, gx1, .null] .null) (f3 : ¬ ((lcmpW jam (0 : Int64)) < (0 : Int32))) (f4 : ¬ ((0 : Int32) < (lcmpW jam (9223372036854775807 : Int64)))) (f5 : ¬ ((lcmpW jam (-128 : Int64)) < (0 : Int32))) (f6 : S_0 Z h0 (.ref a_cache)) (f7 : OwnAll Z h0 a_cache "java/lang/Long") (f8 : n0 ≤ c1_a) (f9 : Ovr Z c2_k "java/lang/Long") :
    MetFree l M_5 (head1 (Jvm.Cond.code M_5 prog_14_method_2_code 6 none :: ws) R_4_1_1_55) (fun a U => a = #[(.ref c0_a), (.int 3), (.long jam), (.long 9223372036854775807)] ∧ Z.Warmed39 U.vm ∧ U.heap = h0) (fun _ _ _ _ _ => True) (fun _ U o U' => ∃ v L, o = .returned v ∧ Q3_137 Z c1_a c2_k gx0 gx1 h0 n0 v U'.heap L ∧ FrameEnd U o U' L R_4_1_1_55.cells R_4_1_1_55.slots) := by
  refine MetFree.of_bodySF (plainFor_of_name pn_hexwright_engine_SealedBids) hisR ?_
  intro p e s m args below meth c s₁ Bd hml0 hP hK
  obtain ⟨rfl, hZ, hh⟩ := hP
  have hx := Bd.exec
  have hby := Bd.bytes
  have hml : c.maxLocals = 6 := hml0
  have hown : s.vm.findClass "hexwright/engine/SealedBids" = some m.cls := findClass_of_methodNamed Bd.named
  have hnm := (name_of_methodNamed Bd.named Bd.method).1
  have X0 : Stand p l e R_4_1_1_55 s m #[(.ref c0_a), (.int 3), (.long jam), (.long 9223372036854775807)] below meth c s₁ [] 0 0 := Stand.of_body Bd
  have e0 : s₁.heap = h0 := by rw [← hh, Bd.state]; rfl
  have N0 := Fr.nil n0
  obtain ⟨T1, X1, e1, st1⟩ := getF X0 hx hZ hown (host := "") (Or.inl (tw_12 hw)) Via.refl e0 f1 (g := (mkF m 1 #[.val (.ref c0_a), .val (.int 3), .val (.long jam), .second, .val (.long 9223372036854775807), .second] [(.ref c0_a)])) rfl rfl (hb hby d3_1)
  have va2 := f2
  obtain ⟨cl2, Ar2, -, S2, -, H2, -⟩ := va2
  have hin2 : ¬ ((2 : Int32) < 0 ∨ cl2.slots.size ≤ ((2 : Int32)).toNatClampNeg) := inb_of S2 ⟨by decide, by decide⟩
  have hat2 : cl2.slots[((2 : Int32)).toNatClampNeg]? = some .null := H2 _ (Nat.lt_of_not_le fun y => hin2 (Or.inr y))
  obtain ⟨T3, X3, e3, st3⟩ := getF X1 hx hZ hown (host := "") (Or.inl (tw_12 hw)) Via.refl e1 f1 (g := (mkF m 56 #[.val (.ref c0_a), .val (.int 3), .val (.long jam), .second, .val (.long 9223372036854775807), .second] [(.ref c0_a)])) rfl rfl (hb hby d3_56)
  -- pc 63: java/lang/Long.valueOf
  obtain ⟨_, _, ⟨T4, L4, k4, n4⟩, -, X4, ⟨Lc4, hQ4, l4, y4, z4⟩, st4⟩ := Jvm.LawKit.callS X3 hx (y := M_4) hown (mvT hZ (tw_19 hw)) (mvT hZ (tw_20 hw)) (mvT hZ (tw_21 hw)) (mvT hZ (tw_22 hw)) (by decide) (backOf (W := 2) (rmB_38 l Z a0 hw [] jam a_cache h0 n0 Z0 f5 f6 f7) hZ (tw_22 hw) (tw_21 hw) (by decide) (by decide)) (g := (mkF m 63 #[.val (.ref c0_a), .val (.int 3), .val (.long jam), .second, .val (.long 9223372036854775807), .second] [(.long jam), (.int 2), (.ref c1_a)])) rfl (by rw [hml]; rfl) (argsL := [(.long jam)]) (rest := [(.int 2), (.ref c1_a)]) (lenOf pd_4 rfl) rfl (by show 2 * 0 + _ ≤ _; exact Nat.le_of_eq rfl) (hb hby d3_63) (fun _ _ => ⟨rfl, e3, (by decide : 0 + 1 ≤ _), (by decide : 0 + 1 ≤ _)⟩)
  dsimp only [Pt.U, Pt.locs, Pt.cells, Pt.slots] at X4 l4 y4 z4 st4 hQ4
  subst l4 y4 z4
  obtain ⟨bx135, rfl, Nq4, K4, o4_0⟩ := hQ4
  have N4 := Fr.app N0 Nq4
  have KK4 : Keep h0 T4.heap [c1_a] := (Keep.refl h0 [c1_a]).trans K4 (fun x hx => nomatch hx)
  have u5 : Arv Z T4.heap c1_a c2_k (.object "java/lang/Long") (3 : Int32) [gx0, gx1, .null] .null := Arv.keep f2 K4 List.not_mem_nil
  have va6 := u5
  obtain ⟨cl6, Ar6, q6, S6, N6_, H6, G6⟩ := va6
  have hin6 : ¬ ((2 : Int32) < 0 ∨ cl6.slots.size ≤ ((2 : Int32)).toNatClampNeg) := inb_of S6 ⟨by decide, by decide⟩
  obtain ⟨T7, h7, X7, e7, W7, st7⟩ := stR X4 hx hZ rfl Ar6 (j := (2 : Int32)) hin6 rfl (Sto.ofV Ar6 q6 f9 (Ins.self o4_0)) (g := (mkF m 66 #[.val (.ref c0_a), .val (.int 3), .val (.long jam), .second, .val (.long 9223372036854775807), .second] [(.ref bx135), (.int 2), (.ref c1_a)])) rfl rfl (hb hby d3_66)
  have Vw7 : Arv Z h7 c1_a c2_k (.object "java/lang/Long") (3 : Int32) [gx0, gx1, (.ref bx135)] .null := Arv.set Ar6 q6 S6 N6_ H6 G6 rfl W7 2 rfl (Nat.le_of_ble_eq_true rfl)
  have KK7 : Keep h0 h7 [c1_a] := KK4.wr W7 (Or.inl (List.mem_of_getElem? (i := 0) rfl))
  have N7 := Fr.snoc X7 N4 f8
  obtain ⟨fs, hr, hrun, hended, hW, hsame⟩ := X7.leave (v := none) (fun _ => rfl)
  refine ⟨_, _, castTop (ef3_RIJJ m c0_a (3 : Int32) jam (9223372036854775807 : Int64)) ?_, hrun, hended, _, _, rfl, ?_, ⟨_, rfl⟩, hW, hsame.mono (by decide) (by decide)⟩
  · show Steps p.tables e below (s₁.setTop (mkF m 0 #[.val (.ref c0_a), .val (.int 3), .val (.long jam), .second, .val (.long 9223372036854775807), .second] [])) _
    refine XS.aloadN X0.here hx rfl (hb hby d3_0) rfl rfl ?_
    show Steps p.tables e below (s₁.setTop (mkF m 1 #[.val (.ref c0_a), .val (.int 3), .val (.long jam), .second, .val (.long 9223372036854775807), .second] [(.ref c0_a)])) _
    refine st1 _ ?_
    refine XS.iloadN X1.here hx rfl (hb hby d3_4) rfl ?_
    refine XS.iconst X1.here hx rfl (hb hby d3_5) ?_
    show Steps p.tables e below (T1.setTop (mkF m 6 #[.val (.ref c0_a), .val (.int 3), .val (.long jam), .second, .val (.long 9223372036854775807), .second] [(.int 1), (.int 3), (.ref c1_a)])) _
    refine XS.isub X1.here hx rfl (hb hby d3_6) rfl ?_
    show Steps p.tables e below (T1.setTop (mkF m 7 #[.val (.ref c0_a), .val (.int 3), .val (.long jam), .second, .val (.long 9223372036854775807), .second] [(.int ((3 : Int32) - (1 : Int32))), (.ref c1_a)])) _
    rw [show ((3 : Int32) - (1 : Int32)) = (2 : Int32) from by decide]
    show Steps p.tables e below (T1.setTop (mkF m 7 #[.val (.ref c0_a), .val (.int 3), .val (.long jam), .second, .val (.long 9223372036854775807), .second] [(.int 2), (.ref c1_a)])) _
    refine X1.aaload hx (j := (2 : Int32)) (v := .null) (by rw [e1]; exact Ar2.1) (State.isArrayOf_alike hZ.alike Ar2.2.1) rfl Ar2.2.2 hin2 hat2 (g := (mkF m 7 #[.val (.ref c0_a), .val (.int 3), .val (.long jam), .second, .val (.long 9223372036854775807), .second] [(.int 2), (.ref c1_a)])) rfl rfl (hb hby d3_7) _ ?_
    refine XS.ifnullYes X1.here hx rfl (pc0 := 8) (pc' := 25) rfl (hb hby d3_8) rfl (by decide) (by decide) ?_
    refine XS.lloadN X1.here hx rfl (hb hby d3_25) rfl ?_
    refine XS.lconst X1.here hx rfl (hb hby d3_26) ?_
    show Steps p.tables e below (T1.setTop (mkF m 27 #[.val (.ref c0_a), .val (.int 3), .val (.long jam), .second, .val (.long 9223372036854775807), .second] [(.long 0), (.long jam)])) _
    refine XS.lcmp X1.here hx rfl (hb hby d3_27) rfl ?_
    refine XS.ifNo X1.here hx rfl (hb hby d3_28) rfl ((if0 _ _).trans (flt (f3 : ¬ ((lcmpW jam (0 : Int64)) < (0 : Int32)))).1) ?_
    refine XS.lloadN X1.here hx rfl (hb hby d3_31) rfl ?_
    refine XS.lload X1.here hx rfl (hb hby d3_32) rfl ?_
    show Steps p.tables e below (T1.setTop (mkF m 34 #[.val (.ref c0_a), .val (.int 3), .val (.long jam), .second, .val (.long 9223372036854775807), .second] [(.long 9223372036854775807), (.long jam)])) _
    refine XS.lcmp X1.here hx rfl (hb hby d3_34) rfl ?_
    refine XS.ifYes X1.here hx rfl (pc0 := 35) (pc' := 55) rfl (hb hby d3_35) rfl ((if0 _ _).trans (flt (f4 : ¬ ((0 : Int32) < (lcmpW jam (9223372036854775807 : Int64))))).2.2.2) (by decide) (by decide) ?_
    refine XS.aloadN X1.here hx rfl (hb hby d3_55) rfl rfl ?_
    show Steps p.tables e below (T1.setTop (mkF m 56 #[.val (.ref c0_a), .val (.int 3), .val (.long jam), .second, .val (.long 9223372036854775807), .second] [(.ref c0_a)])) _
    refine st3 _ ?_
    refine XS.iloadN X3.here hx rfl (hb hby d3_59) rfl ?_
    refine XS.iconst X3.here hx rfl (hb hby d3_60) ?_
    show Steps p.tables e below (T3.setTop (mkF m 61 #[.val (.ref c0_a), .val (.int 3), .val (.long jam), .second, .val (.long 9223372036854775807), .second] [(.int 1), (.int 3), (.ref c1_a)])) _
    refine XS.isub X3.here hx rfl (hb hby d3_61) rfl ?_
    show Steps p.tables e below (T3.setTop (mkF m 62 #[.val (.ref c0_a), .val (.int 3), .val (.long jam), .second, .val (.long 9223372036854775807), .second] [(.int ((3 : Int32) - (1 : Int32))), (.ref c1_a)])) _
    rw [show ((3 : Int32) - (1 : Int32)) = (2 : Int32) from by decide]
    refine XS.lloadN X3.here hx rfl (hb hby d3_62) rfl ?_
    show Steps p.tables e below (T3.setTop (mkF m 63 #[.val (.ref c0_a), .val (.int 3), .val (.long jam), .second, .val (.long 9223372036854775807), .second] [(.long jam), (.int 2), (.ref c1_a)])) _
    refine st4 _ ?_
    show Steps p.tables e below (T4.setTop (mkF m 66 #[.val (.ref c0_a), .val (.int 3), .val (.long jam), .second, .val (.long 9223372036854775807), .second] [(.ref bx135), (.int 2), (.ref c1_a)])) _
    refine st7 _ ?_
    show Steps p.tables e below (T7.setTop (mkF m 67 #[.val (.ref c0_a), .val (.int 3), .val (.long jam), .second, .val (.long 9223372036854775807), .second] [])) _
    exact X7.returnOut hx Bd.returns (hb hby d3_67) hr
  · show Q3_137 Z c1_a c2_k gx0 gx1 h0 n0 _ T7.heap _
    rw [e7]
    exact ⟨bx135, rfl, N7, KK7, Vw7⟩
set_option maxRecDepth 65536 in
set_option maxHeartbeats 40000000 in
theorem sg131_139 {p : Program} {l : Launch} {e : Env} {s : State} {m : MethodId} {below : List Frame} {meth : Method} {c : Code} {T0 : State} {locs : List Loc} {Z : State} {a0 : Array Value} (p0 : Int32) (p1 : Int32) (p2 : Int64) (gq4 : Int32) (gq5 : Int32) (gq6 : Int32) (gq8 : Int32) (jam : Int64) (c0_a : Addr) (c1_a : Addr) (c2_k : ClassId) (gx0 : Value) (gx1 : Value) (a_cache : Addr) {h0 : Heap} {n0 : Nat} (X0 : Stand p l e room_1 s m #[(.int p0), (.int p1), (.long p2)] below meth c T0 locs 4 6) (hx : p.tables.exec = Jvm.exec) (hZ : Z.Warmed39 s.vm) (hw : ∀ d ∈ tables_1, d.before a0 Z = true) (hby : c.code = code) (hml : c.maxLocals = 15) (hown : s.vm.findClass "hexwright/engine/SealedBidsHasBidPinLaw" = some m.cls) (e0 : T0.heap = h0) (N0 : Fr n0 locs) (Z0 : n0 ≤ h0.size) (f1 : F_0 Z h0 c0_a (.ref c1_a)) (f2 : Arv Z h0 c1_a c2_k (.object "java/lang/Long") (3 : Int32) [gx0, gx1, .null] .null) (f3 : ¬ ((lcmpW jam (0 : Int64)) < (0 : Int32))) (f4 : ¬ ((0 : Int32) < (lcmpW jam (9223372036854775807 : Int64)))) (f5 : ¬ ((lcmpW jam (-128 : Int64)) < (0 : Int32))) (f6 : S_0 Z h0 (.ref a_cache)) (f7 : OwnAll Z h0 a_cache "java/lang/Long") (f8 : n0 ≤ c1_a) (f9 : Ovr Z c2_k "java/lang/Long") (f10 : E_1 Z h0 c0_a) :
    ∃ (T : State) (h : Heap) (L : List Loc) (bx138 : Addr), Stand p l e room_1 s m #[(.int p0), (.int p1), (.long p2)] below meth c T L 5 7 ∧ T.heap = h ∧ Fr n0 L ∧ Keep h0 h [c1_a] ∧ Arv Z h c1_a c2_k (.object "java/lang/Long") (3 : Int32) [gx0, gx1, (.ref bx138)] .null ∧ (∀ target, Steps p.tables e below (T.setTop (mkF m 146 #[.val (.int p0), .val (.int p1), .val (.long p2), .second, .val (.int gq4), .val (.int gq5), .val (.int gq6), .val (.int 1), .val (.int gq8), .val (.long jam), .second, .val (.long 9223372036854775807), .second, .val (.ref c0_a), .unset] [])) target → Steps p.tables e below (T0.setTop (mkF m 131 #[.val (.int p0), .val (.int p1), .val (.long p2), .second, .val (.int gq4), .val (.int gq5), .val (.int gq6), .val (.int 1), .val (.int gq8), .val (.long jam), .second, .val (.long 9223372036854775807), .second, .val (.ref c0_a), .unset] [])) target) := by
  -- pc 143: hexwright/engine/SealedBids.bid
  obtain ⟨cq1, kq1, q1a, q1b, q1c⟩ := isOf hZ e0 f10
  obtain ⟨_, _, ⟨T1, L1, k1, n1⟩, -, X1, ⟨Lc1, hQ1, l1, y1, z1⟩, st1⟩ := X0.virtualBack hx (y := M_5) (z := M_5) hown (mvT hZ (tw_14 hw)) (mvT hZ (tw_15 hw)) (notFace_of_selects (args := #[]) (mvT hZ (tw_17 hw))) (mvT hZ (tw_17 hw)) (mvT hZ (tw_16 hw)) (by decide) (backOf (W := 0) (rm3_136 l Z a0 hw [] c0_a jam c1_a c2_k gx0 gx1 a_cache h0 n0 Z0 f1 f2 f3 f4 f5 f6 f7 f8 f9) hZ (tw_18 hw) (tw_3 hw) (by decide) (by decide)) q1a q1c (g := (mkF m 143 #[.val (.int p0), .val (.int p1), .val (.long p2), .second, .val (.int gq4), .val (.int gq5), .val (.int gq6), .val (.int 1), .val (.int gq8), .val (.long jam), .second, .val (.long 9223372036854775807), .second, .val (.ref c0_a), .unset] [(.long 9223372036854775807), (.long jam), (.int 3), (.ref c0_a)])) rfl (by rw [hml]; rfl) (Steps.refl _) (argsL := [(.int 3), (.long jam), (.long 9223372036854775807)]) (rest := []) (lenOf pd_5 rfl) rfl (by show 2 * 0 + _ ≤ _; exact Nat.le_of_eq rfl) (hb hby at_143) (fun _ _ => ⟨rfl, e0, (by decide : 4 + 1 ≤ _), (by decide : 6 + 1 ≤ _)⟩)
  dsimp only [Pt.U, Pt.locs, Pt.cells, Pt.slots] at X1 l1 y1 z1 st1 hQ1
  subst l1 y1 z1
  obtain ⟨bx138, rfl, Nq1, K1, o1_0⟩ := hQ1
  have N1 := Fr.app N0 Nq1
  have KK1 : Keep h0 T1.heap [c1_a] := (Keep.refl h0 [c1_a]).trans K1 (fun x hx => (List.mem_cons.mp hx).elim (fun q => q ▸ (Or.inl (List.mem_of_getElem? (i := 0) rfl))) (fun hx => nomatch hx))
  refine ⟨T1, _, _, bx138, (X1.more (by decide) (by decide)), rfl, N1, KK1, o1_0, fun target kt => ?_⟩
  show Steps p.tables e below (T0.setTop (mkF m 131 #[.val (.int p0), .val (.int p1), .val (.long p2), .second, .val (.int gq4), .val (.int gq5), .val (.int gq6), .val (.int 1), .val (.int gq8), .val (.long jam), .second, .val (.long 9223372036854775807), .second, .val (.ref c0_a), .unset] [])) _
  refine XS.iload X0.here hx rfl (hb hby at_131) rfl ?_
  refine XS.ifNo X0.here hx rfl (hb hby at_133) rfl (by decide) ?_
  refine XS.aload X0.here hx rfl (hb hby at_136) rfl rfl ?_
  refine XS.iconst X0.here hx rfl (hb hby at_138) ?_
  refine XS.lload X0.here hx rfl (hb hby at_139) rfl ?_
  show Steps p.tables e below (T0.setTop (mkF m 141 #[.val (.int p0), .val (.int p1), .val (.long p2), .second, .val (.int gq4), .val (.int gq5), .val (.int gq6), .val (.int 1), .val (.int gq8), .val (.long jam), .second, .val (.long 9223372036854775807), .second, .val (.ref c0_a), .unset] [(.long jam), (.int 3), (.ref c0_a)])) _
  refine XS.lload X0.here hx rfl (hb hby at_141) rfl ?_
  show Steps p.tables e below (T0.setTop (mkF m 143 #[.val (.int p0), .val (.int p1), .val (.long p2), .second, .val (.int gq4), .val (.int gq5), .val (.int gq6), .val (.int 1), .val (.int gq8), .val (.long jam), .second, .val (.long 9223372036854775807), .second, .val (.ref c0_a), .unset] [(.long 9223372036854775807), (.long jam), (.int 3), (.ref c0_a)])) _
  refine st1.trans ?_
  show Steps p.tables e below (T1.setTop (mkF m 146 #[.val (.int p0), .val (.int p1), .val (.long p2), .second, .val (.int gq4), .val (.int gq5), .val (.int gq6), .val (.int 1), .val (.int gq8), .val (.long jam), .second, .val (.long 9223372036854775807), .second, .val (.ref c0_a), .unset] [])) _
  exact kt
set_option maxRecDepth 65536 in
set_option maxHeartbeats 40000000 in
theorem rm5_141 (l : Launch) (Z : State) (a0 : Array Value) (hw : ∀ d ∈ tables_1, d.before a0 Z = true) (ws : List Jvm.Cond) (c0_a : Addr) (c1_a : Addr) (c2_k : ClassId) (gx0 : Value) (gx1 : Value) (c3_a : Addr) (h0 : Heap) (n0 : Nat) (Z0 : n0 ≤ h0.size) (f1 : F_0 Z h0 c0_a (.ref c1_a)) (f2 : Arv Z h0 c1_a c2_k (.object "java/lang/Long") (3 : Int32) [gx0, gx1, (.ref c3_a)] .null) :
    MetFree l M_1 (head1 (Jvm.Cond.code M_1 prog_14_method_4_code 2 (some .boolean) :: ws) R_0_0_0_0) (fun a U => a = #[(.ref c0_a), (.int 3)] ∧ Z.Warmed39 U.vm ∧ U.heap = h0) (fun _ _ _ _ _ => True) (fun _ U o U' => ∃ v L, o = .returned v ∧ QP (some (.int 1)) h0 n0 v U'.heap L ∧ FrameEnd U o U' L R_0_0_0_0.cells R_0_0_0_0.slots) := by
  refine MetFree.of_bodySF (plainFor_of_name pn_hexwright_engine_SealedBids) hisR ?_
  intro p e s m args below meth c s₁ Bd hml0 hP hK
  obtain ⟨rfl, hZ, hh⟩ := hP
  have hx := Bd.exec
  have hby := Bd.bytes
  have hml : c.maxLocals = 2 := hml0
  have hown : s.vm.findClass "hexwright/engine/SealedBids" = some m.cls := findClass_of_methodNamed Bd.named
  have hnm := (name_of_methodNamed Bd.named Bd.method).1
  have X0 : Stand p l e R_0_0_0_0 s m #[(.ref c0_a), (.int 3)] below meth c s₁ [] 0 0 := Stand.of_body Bd
  have e0 : s₁.heap = h0 := by rw [← hh, Bd.state]; rfl
  have N0 := Fr.nil n0
  obtain ⟨T1, X1, e1, st1⟩ := getF X0 hx hZ hown (host := "") (Or.inl (tw_12 hw)) Via.refl e0 f1 (g := (mkF m 1 #[.val (.ref c0_a), .val (.int 3)] [(.ref c0_a)])) rfl rfl (hb hby d5_1)
  have va2 := f2
  obtain ⟨cl2, Ar2, -, S2, -, H2, -⟩ := va2
  have hin2 : ¬ ((2 : Int32) < 0 ∨ cl2.slots.size ≤ ((2 : Int32)).toNatClampNeg) := inb_of S2 ⟨by decide, by decide⟩
  have hat2 : cl2.slots[((2 : Int32)).toNatClampNeg]? = some (.ref c3_a) := H2 _ (Nat.lt_of_not_le fun y => hin2 (Or.inr y))
  obtain ⟨fs, hr, hrun, hended, hW, hsame⟩ := X1.leave (v := (some (.int 1))) (fun h => by rw [Bd.returns] at h; cases h)
  refine ⟨_, _, castTop (ef5_RI m c0_a (3 : Int32)) ?_, hrun, hended, _, _, rfl, ?_, ⟨_, rfl⟩, hW, hsame.mono (by decide) (by decide)⟩
  · show Steps p.tables e below (s₁.setTop (mkF m 0 #[.val (.ref c0_a), .val (.int 3)] [])) _
    refine XS.aloadN X0.here hx rfl (hb hby d5_0) rfl rfl ?_
    show Steps p.tables e below (s₁.setTop (mkF m 1 #[.val (.ref c0_a), .val (.int 3)] [(.ref c0_a)])) _
    refine st1 _ ?_
    refine XS.iloadN X1.here hx rfl (hb hby d5_4) rfl ?_
    refine XS.iconst X1.here hx rfl (hb hby d5_5) ?_
    show Steps p.tables e below (T1.setTop (mkF m 6 #[.val (.ref c0_a), .val (.int 3)] [(.int 1), (.int 3), (.ref c1_a)])) _
    refine XS.isub X1.here hx rfl (hb hby d5_6) rfl ?_
    show Steps p.tables e below (T1.setTop (mkF m 7 #[.val (.ref c0_a), .val (.int 3)] [(.int ((3 : Int32) - (1 : Int32))), (.ref c1_a)])) _
    rw [show ((3 : Int32) - (1 : Int32)) = (2 : Int32) from by decide]
    show Steps p.tables e below (T1.setTop (mkF m 7 #[.val (.ref c0_a), .val (.int 3)] [(.int 2), (.ref c1_a)])) _
    refine X1.aaload hx (j := (2 : Int32)) (v := (.ref c3_a)) (by rw [e1]; exact Ar2.1) (State.isArrayOf_alike hZ.alike Ar2.2.1) rfl Ar2.2.2 hin2 hat2 (g := (mkF m 7 #[.val (.ref c0_a), .val (.int 3)] [(.int 2), (.ref c1_a)])) rfl rfl (hb hby d5_7) _ ?_
    refine XS.ifnullNo X1.here hx rfl (hb hby d5_8) rfl ?_
    refine XS.iconst X1.here hx rfl (hb hby d5_11) ?_
    refine XS.goto X1.here hx rfl (pc0 := 12) (pc' := 16) rfl (hb hby d5_12) (by decide) (by decide) ?_
    show Steps p.tables e below (T1.setTop (mkF m 16 #[.val (.ref c0_a), .val (.int 3)] [(.int 1)])) _
    exact retN X1 hx (t := .boolean) Bd.returns (by simp) (hb hby d5_16) hr
  · show QP (some (.int 1)) h0 n0 _ T1.heap _
    rw [e1]
    exact ⟨rfl, N0, rfl⟩
set_option maxRecDepth 65536 in
set_option maxHeartbeats 40000000 in
theorem sg208_142 {p : Program} {l : Launch} {e : Env} {s : State} {m : MethodId} {below : List Frame} {meth : Method} {c : Code} {T0 : State} {locs : List Loc} {Z : State} {a0 : Array Value} (p0 : Int32) (p1 : Int32) (p2 : Int64) (gq5 : Int32) (gq6 : Int32) (gq8 : Int32) (jam : Int64) (gq11 : Int64) (c0_a : Addr) (c1_a : Addr) (c2_k : ClassId) (gx0 : Value) (gx1 : Value) (c3_a : Addr) {h0 : Heap} {n0 : Nat} (X0 : Stand p l e room_1 s m #[(.int p0), (.int p1), (.long p2)] below meth c T0 locs 6 8) (hx : p.tables.exec = Jvm.exec) (hZ : Z.Warmed39 s.vm) (hw : ∀ d ∈ tables_1, d.before a0 Z = true) (hby : c.code = code) (hml : c.maxLocals = 15) (hown : s.vm.findClass "hexwright/engine/SealedBidsHasBidPinLaw" = some m.cls) (e0 : T0.heap = h0) (N0 : Fr n0 locs) (Z0 : n0 ≤ h0.size) (f1 : F_0 Z h0 c0_a (.ref c1_a)) (f2 : Arv Z h0 c1_a c2_k (.object "java/lang/Long") (3 : Int32) [gx0, gx1, (.ref c3_a)] .null) (f3 : E_1 Z h0 c0_a) :
    ∃ (T : State) (L : List Loc), Stand p l e room_1 s m #[(.int p0), (.int p1), (.long p2)] below meth c T L 6 8 ∧ T.heap = h0 ∧ Fr n0 L ∧ (∀ target, Steps p.tables e below (T.setTop (mkF m 237 #[.val (.int p0), .val (.int p1), .val (.long p2), .second, .val (.int 3), .val (.int gq5), .val (.int gq6), .val (.int 1), .val (.int gq8), .val (.long jam), .second, .val (.long gq11), .second, .val (.ref c0_a), .val (.int 1)] [])) target → Steps p.tables e below (T0.setTop (mkF m 208 #[.val (.int p0), .val (.int p1), .val (.long p2), .second, .val (.int 3), .val (.int gq5), .val (.int gq6), .val (.int 1), .val (.int gq8), .val (.long jam), .second, .val (.long gq11), .second, .val (.ref c0_a), .val (.int 1)] [])) target) := by
  -- pc 222: hexwright/engine/SealedBids.hasBid
  obtain ⟨cq1, kq1, q1a, q1b, q1c⟩ := isOf hZ e0 f3
  obtain ⟨_, _, ⟨T1, L1, k1, n1⟩, -, X1, ⟨Lc1, hQ1, l1, y1, z1⟩, st1⟩ := X0.virtualBack hx (y := M_1) (z := M_1) hown (mvT hZ (tw_28 hw)) (mvT hZ (tw_29 hw)) (notFace_of_selects (args := #[]) (mvT hZ (tw_31 hw))) (mvT hZ (tw_31 hw)) (mvT hZ (tw_30 hw)) (by decide) (backOf (W := 0) (rm5_141 l Z a0 hw [] c0_a c1_a c2_k gx0 gx1 c3_a h0 n0 Z0 f1 f2) hZ (tw_32 hw) (tw_3 hw) (by decide) (by decide)) q1a q1c (g := (mkF m 222 #[.val (.int p0), .val (.int p1), .val (.long p2), .second, .val (.int 3), .val (.int gq5), .val (.int gq6), .val (.int 1), .val (.int gq8), .val (.long jam), .second, .val (.long gq11), .second, .val (.ref c0_a), .val (.int 1)] [(.int 3), (.ref c0_a)])) rfl (by rw [hml]; rfl) (Steps.refl _) (argsL := [(.int 3)]) (rest := []) (lenOf pd_1 rfl) rfl (by show 2 * 0 + _ ≤ _; exact Nat.le_of_eq rfl) (hb hby at_222) (fun _ _ => ⟨rfl, e0, (by decide : 6 + 0 ≤ _), (by decide : 8 + 0 ≤ _)⟩)
  dsimp only [Pt.U, Pt.locs, Pt.cells, Pt.slots] at X1 l1 y1 z1 st1 hQ1
  subst l1 y1 z1
  obtain ⟨rfl, Nq1, e1⟩ := hQ1
  have N1 := Fr.app N0 Nq1
  refine ⟨T1, _, X1, e1, N1, fun target kt => ?_⟩
  show Steps p.tables e below (T0.setTop (mkF m 208 #[.val (.int p0), .val (.int p1), .val (.long p2), .second, .val (.int 3), .val (.int gq5), .val (.int gq6), .val (.int 1), .val (.int gq8), .val (.long jam), .second, .val (.long gq11), .second, .val (.ref c0_a), .val (.int 1)] [])) _
  refine XS.iload X0.here hx rfl (hb hby at_208) rfl ?_
  refine XS.iconst X0.here hx rfl (hb hby at_210) ?_
  refine XS.icmpNo X0.here hx rfl (hb hby at_211) rfl (by decide) ?_
  refine XS.iload X0.here hx rfl (hb hby at_214) rfl ?_
  refine XS.ifNo X0.here hx rfl (hb hby at_216) rfl (by decide) ?_
  show Steps p.tables e below (T0.setTop (mkF m 219 #[.val (.int p0), .val (.int p1), .val (.long p2), .second, .val (.int 3), .val (.int gq5), .val (.int gq6), .val (.int 1), .val (.int gq8), .val (.long jam), .second, .val (.long gq11), .second, .val (.ref c0_a), .val (.int 1)] [])) _
  refine XS.aload X0.here hx rfl (hb hby at_219) rfl rfl ?_
  refine XS.iconst X0.here hx rfl (hb hby at_221) ?_
  show Steps p.tables e below (T0.setTop (mkF m 222 #[.val (.int p0), .val (.int p1), .val (.long p2), .second, .val (.int 3), .val (.int gq5), .val (.int gq6), .val (.int 1), .val (.int gq8), .val (.long jam), .second, .val (.long gq11), .second, .val (.ref c0_a), .val (.int 1)] [(.int 3), (.ref c0_a)])) _
  refine st1.trans ?_
  refine XS.iload X1.here hx rfl (hb hby at_225) rfl ?_
  refine XS.icmpNo X1.here hx rfl (hb hby at_227) rfl (by decide) ?_
  refine XS.iconst X1.here hx rfl (hb hby at_230) ?_
  refine XS.goto X1.here hx rfl (pc0 := 231) (pc' := 235) rfl (hb hby at_231) (by decide) (by decide) ?_
  show Steps p.tables e below (T1.setTop (mkF m 235 #[.val (.int p0), .val (.int p1), .val (.long p2), .second, .val (.int 3), .val (.int gq5), .val (.int gq6), .val (.int 1), .val (.int gq8), .val (.long jam), .second, .val (.long gq11), .second, .val (.ref c0_a), .val (.int 1)] [(.int 1)])) _
  refine XS.istore X1.here hx rfl (hb hby at_235) rfl (l' := #[.val (.int p0), .val (.int p1), .val (.long p2), .second, .val (.int 3), .val (.int gq5), .val (.int gq6), .val (.int 1), .val (.int gq8), .val (.long jam), .second, .val (.long gq11), .second, .val (.ref c0_a), .val (.int 1)]) rfl ?_
  show Steps p.tables e below (T1.setTop (mkF m 237 #[.val (.int p0), .val (.int p1), .val (.long p2), .second, .val (.int 3), .val (.int gq5), .val (.int gq6), .val (.int 1), .val (.int gq8), .val (.long jam), .second, .val (.long gq11), .second, .val (.ref c0_a), .val (.int 1)] [])) _
  exact kt
set_option maxRecDepth 65536 in
set_option maxHeartbeats 40000000 in
theorem rm0_143 (l : Launch) (Z : State) (a0 : Array Value) (hw : ∀ d ∈ tables_1, d.before a0 Z = true) (ws : List Jvm.Cond) (p0 : Int32) (p1 : Int32) (p2 : Int64) (jam : Int64) (a_cache : Addr) (h0 : Heap) (n0 : Nat) (Z0 : n0 ≤ h0.size) (f1 : (p0 &&& (3 : Int32)) = (2 : Int32)) (f2 : (p1 &&& (1 : Int32)) = (0 : Int32)) (f3 : (p1 &&& (2 : Int32)) = (0 : Int32)) (f4 : ¬ ((p1 &&& (4 : Int32)) = (0 : Int32))) (f5 : (p2 &&& (9223372036854775807 : Int64)) = jam) (f6 : ¬ ((lcmpW jam (0 : Int64)) < (0 : Int32))) (f7 : ¬ ((0 : Int32) < (lcmpW jam (9223372036854775807 : Int64)))) (f8 : ¬ ((lcmpW jam (-128 : Int64)) < (0 : Int32))) (f9 : S_0 Z h0 (.ref a_cache)) (f10 : OwnAll Z h0 a_cache "java/lang/Long") :
    MetFree l x (head1 (Jvm.Cond.code x code maxLocals ret :: ws) room_1) (fun a U => a = #[(.int p0), (.int p1), (.long p2)] ∧ Z.Warmed39 U.vm ∧ U.heap = h0) (fun _ _ _ _ _ => True) (fun _ U o U' => ∃ v L, o = .returned v ∧ QT n0 v U'.heap L ∧ FrameEnd U o U' L room_1.cells room_1.slots) := by
  refine MetFree.of_bodySF (plainFor_of_name pn_hexwright_engine_SealedBidsHasBidPinLaw) hisR ?_
  intro p e s m args below meth c s₁ Bd hml0 hP hK
  obtain ⟨rfl, hZ, hh⟩ := hP
  have hx := Bd.exec
  have hby := Bd.bytes
  have hml : c.maxLocals = 15 := hml0
  have hown : s.vm.findClass "hexwright/engine/SealedBidsHasBidPinLaw" = some m.cls := findClass_of_methodNamed Bd.named
  have hnm := (name_of_methodNamed Bd.named Bd.method).1
  have X0 : Stand p l e room_1 s m #[(.int p0), (.int p1), (.long p2)] below meth c s₁ [] 0 0 := Stand.of_body Bd
  have e0 : s₁.heap = h0 := by rw [← hh, Bd.state]; rfl
  have N0 := Fr.nil n0
  obtain ⟨T1, L1, X1, e1, N1, st1⟩ := sg7_1 p0 p1 p2 (3 : Int32) X0 hx hZ hw hby hml hown e0 N0 Z0 f2
  obtain ⟨T2, L2, X2, e2, N2, st2⟩ := sg20_105 p0 p1 p2 (0 : Int32) X1 hx hZ hw hby hml hown e1 N1 Z0 f3
  obtain ⟨T3, L3, X3, e3, N3, st3⟩ := sg39_131 p0 p1 p2 (0 : Int32) (0 : Int32) X2 hx hZ hw hby hml hown e2 N2 Z0 f4
  obtain ⟨T4, L4, X4, e4, N4, st4⟩ := sg58_107 p0 p1 p2 (0 : Int32) (0 : Int32) (1 : Int32) X3 hx hZ hw hby hml hown e3 N3 Z0 
  obtain ⟨T5, L5, X5, e5, N5, st5⟩ := sg78_5 p0 p1 p2 (3 : Int32) (0 : Int32) (0 : Int32) (1 : Int32) (0 : Int32) jam X4 hx hZ hw hby hml hown e4 N4 Z0 f5
  obtain ⟨T6, h6, L6, b132, b133, kc134, X6, e6, N6, K6, le_b132, le_b133, o6_0, o6_1, o6_2, o6_3, o6_4, st6⟩ := sg90_115 p0 p1 p2 (0 : Int32) (0 : Int32) (1 : Int32) (0 : Int32) jam (9223372036854775807 : Int64) X5 hx hZ hw hby hml hown e5 N5 Z0 
  have sz_b132 : h0.size ≤ b132 := Nat.le_trans (Nat.le_refl _) le_b132
  have g_b132 : n0 ≤ b132 := Nat.le_trans Z0 sz_b132
  have sz_b133 : h0.size ≤ b133 := Nat.le_trans (Nat.le_refl _) le_b133
  have g_b133 : n0 ≤ b133 := Nat.le_trans Z0 sz_b133
  have KK6 : Keep h0 h6 [] := (Keep.refl h0 []).trans K6 (fun x hx => nomatch hx)
  obtain ⟨T7, L7, X7, e7, N7, st7⟩ := sg101_119 p0 p1 p2 (3 : Int32) (0 : Int32) (1 : Int32) (0 : Int32) jam b132 X6 hx hZ hw hby hml hown e6 N6 (Nat.le_trans Z0 KK6.1) 
  obtain ⟨T8, L8, X8, e8, N8, st8⟩ := sg116_120 p0 p1 p2 (3 : Int32) (0 : Int32) (1 : Int32) (0 : Int32) jam b132 X7 hx hZ hw hby hml hown e7 N7 (Nat.le_trans Z0 KK6.1) 
  have u10 : S_0 Z h6 (.ref a_cache) := own_sta_keep f9 K6 (fun _ q => nomatch q)
  have u11 : OwnAll Z h6 a_cache "java/lang/Long" := own_all_keep f10 K6 List.not_mem_nil
  obtain ⟨T9, h9, L9, bx140, X9, e9, N9, K9, o9_0, st9⟩ := sg131_139 p0 p1 p2 (3 : Int32) (0 : Int32) (0 : Int32) (0 : Int32) jam b132 b133 kc134 .null .null a_cache X8 hx hZ hw hby hml hown e8 N8 (Nat.le_trans Z0 KK6.1) o6_1 o6_2 f6 f7 f8 u10 u11 g_b133 o6_3 o6_0
  have KK9 : Keep h0 h9 [] := KK6.trans K9 (fun x hx => (List.mem_cons.mp hx).elim (fun q => q ▸ (Or.inr sz_b133)) (fun hx => nomatch hx))
  obtain ⟨T12, L12, X12, e12, N12, st12⟩ := sg146_122 p0 p1 p2 (3 : Int32) (0 : Int32) (0 : Int32) (1 : Int32) jam b132 X9 hx hZ hw hby hml hown e9 N9 (Nat.le_trans Z0 KK9.1) 
  have u14 : F_0 Z h9 b132 (.ref b133) := Fld.keep o6_1 K9 (own_notin o6_4 List.not_mem_nil)
  have u15 : E_1 Z h9 b132 := Exa.keep o6_0 K9
  obtain ⟨T13, L13, X13, e13, N13, st13⟩ := sg161_124 p0 p1 p2 (3 : Int32) (0 : Int32) (1 : Int32) (0 : Int32) jam (9223372036854775807 : Int64) b132 b133 kc134 .null (.ref bx140) X12 hx hZ hw hby hml hown e12 N12 (Nat.le_trans Z0 KK9.1) u14 o9_0 u15
  obtain ⟨T16, L16, X16, e16, N16, st16⟩ := sg179_126 p0 p1 p2 (0 : Int32) (1 : Int32) (0 : Int32) jam (9223372036854775807 : Int64) b132 b133 kc134 .null (.ref bx140) X13 hx hZ hw hby hml hown e13 N13 (Nat.le_trans Z0 KK9.1) u14 o9_0 u15
  obtain ⟨T17, L17, X17, e17, N17, st17⟩ := sg208_142 p0 p1 p2 (0 : Int32) (0 : Int32) (0 : Int32) jam (9223372036854775807 : Int64) b132 b133 kc134 .null .null bx140 X16 hx hZ hw hby hml hown e16 N16 (Nat.le_trans Z0 KK9.1) u14 o9_0 u15
  obtain ⟨T18, L18, X18, e18, N18, st18⟩ := sg237_129 p0 p1 p2 (0 : Int32) (0 : Int32) (1 : Int32) jam (9223372036854775807 : Int64) b132 X17 hx hZ hw hby hml hown e17 N17 (Nat.le_trans Z0 KK9.1) 
  obtain ⟨fs, hr, hrun, hended, hW, hsame⟩ := X18.leave (v := (some (.int 1))) (fun h => by rw [Bd.returns] at h; cases h)
  refine ⟨_, _, castTop (ef0_IIJ m p0 p1 p2) ?_, hrun, hended, _, _, rfl, ?_, ⟨_, rfl⟩, hW, hsame.mono (by decide) (by decide)⟩
  · show Steps p.tables e below (s₁.setTop (mkF m 0 #[.val (.int p0), .val (.int p1), .val (.long p2), .second, .unset, .unset, .unset, .unset, .unset, .unset, .unset, .unset, .unset, .unset, .unset] [])) _
    refine XS.iloadN X0.here hx rfl (hb hby at_0) rfl ?_
    refine XS.iconst X0.here hx rfl (hb hby at_1) ?_
    show Steps p.tables e below (s₁.setTop (mkF m 2 #[.val (.int p0), .val (.int p1), .val (.long p2), .second, .unset, .unset, .unset, .unset, .unset, .unset, .unset, .unset, .unset, .unset, .unset] [(.int 3), (.int p0)])) _
    refine XS.iand X0.here hx rfl (hb hby at_2) rfl ?_
    show Steps p.tables e below (s₁.setTop (mkF m 3 #[.val (.int p0), .val (.int p1), .val (.long p2), .second, .unset, .unset, .unset, .unset, .unset, .unset, .unset, .unset, .unset, .unset, .unset] [(.int (p0 &&& (3 : Int32)))])) _
    rw [f1]
    refine XS.iconst X0.here hx rfl (hb hby at_3) ?_
    show Steps p.tables e below (s₁.setTop (mkF m 4 #[.val (.int p0), .val (.int p1), .val (.long p2), .second, .unset, .unset, .unset, .unset, .unset, .unset, .unset, .unset, .unset, .unset, .unset] [(.int 1), (.int 2)])) _
    refine XS.iadd X0.here hx rfl (hb hby at_4) rfl ?_
    show Steps p.tables e below (s₁.setTop (mkF m 5 #[.val (.int p0), .val (.int p1), .val (.long p2), .second, .unset, .unset, .unset, .unset, .unset, .unset, .unset, .unset, .unset, .unset, .unset] [(.int ((2 : Int32) + (1 : Int32)))])) _
    rw [show ((2 : Int32) + (1 : Int32)) = (3 : Int32) from by decide]
    refine XS.istore X0.here hx rfl (hb hby at_5) rfl (l' := #[.val (.int p0), .val (.int p1), .val (.long p2), .second, .val (.int 3), .unset, .unset, .unset, .unset, .unset, .unset, .unset, .unset, .unset, .unset]) rfl ?_
    show Steps p.tables e below (s₁.setTop (mkF m 7 #[.val (.int p0), .val (.int p1), .val (.long p2), .second, .val (.int 3), .unset, .unset, .unset, .unset, .unset, .unset, .unset, .unset, .unset, .unset] [])) _
    refine st1 _ ?_
    show Steps p.tables e below (T1.setTop (mkF m 20 #[.val (.int p0), .val (.int p1), .val (.long p2), .second, .val (.int 3), .val (.int 0), .unset, .unset, .unset, .unset, .unset, .unset, .unset, .unset, .unset] [])) _
    refine st2 _ ?_
    show Steps p.tables e below (T2.setTop (mkF m 39 #[.val (.int p0), .val (.int p1), .val (.long p2), .second, .val (.int 3), .val (.int 0), .val (.int 0), .unset, .unset, .unset, .unset, .unset, .unset, .unset, .unset] [])) _
    refine st3 _ ?_
    show Steps p.tables e below (T3.setTop (mkF m 58 #[.val (.int p0), .val (.int p1), .val (.long p2), .second, .val (.int 3), .val (.int 0), .val (.int 0), .val (.int 1), .unset, .unset, .unset, .unset, .unset, .unset, .unset] [])) _
    refine st4 _ ?_
    show Steps p.tables e below (T4.setTop (mkF m 78 #[.val (.int p0), .val (.int p1), .val (.long p2), .second, .val (.int 3), .val (.int 0), .val (.int 0), .val (.int 1), .val (.int 0), .unset, .unset, .unset, .unset, .unset, .unset] [])) _
    refine st5 _ ?_
    show Steps p.tables e below (T5.setTop (mkF m 90 #[.val (.int p0), .val (.int p1), .val (.long p2), .second, .val (.int 3), .val (.int 0), .val (.int 0), .val (.int 1), .val (.int 0), .val (.long jam), .second, .val (.long 9223372036854775807), .second, .unset, .unset] [])) _
    refine st6 _ ?_
    show Steps p.tables e below (T6.setTop (mkF m 101 #[.val (.int p0), .val (.int p1), .val (.long p2), .second, .val (.int 3), .val (.int 0), .val (.int 0), .val (.int 1), .val (.int 0), .val (.long jam), .second, .val (.long 9223372036854775807), .second, .val (.ref b132), .unset] [])) _
    refine st7 _ ?_
    show Steps p.tables e below (T7.setTop (mkF m 116 #[.val (.int p0), .val (.int p1), .val (.long p2), .second, .val (.int 3), .val (.int 0), .val (.int 0), .val (.int 1), .val (.int 0), .val (.long jam), .second, .val (.long 9223372036854775807), .second, .val (.ref b132), .unset] [])) _
    refine st8 _ ?_
    show Steps p.tables e below (T8.setTop (mkF m 131 #[.val (.int p0), .val (.int p1), .val (.long p2), .second, .val (.int 3), .val (.int 0), .val (.int 0), .val (.int 1), .val (.int 0), .val (.long jam), .second, .val (.long 9223372036854775807), .second, .val (.ref b132), .unset] [])) _
    refine st9 _ ?_
    show Steps p.tables e below (T9.setTop (mkF m 146 #[.val (.int p0), .val (.int p1), .val (.long p2), .second, .val (.int 3), .val (.int 0), .val (.int 0), .val (.int 1), .val (.int 0), .val (.long jam), .second, .val (.long 9223372036854775807), .second, .val (.ref b132), .unset] [])) _
    refine st12 _ ?_
    show Steps p.tables e below (T12.setTop (mkF m 161 #[.val (.int p0), .val (.int p1), .val (.long p2), .second, .val (.int 3), .val (.int 0), .val (.int 0), .val (.int 1), .val (.int 0), .val (.long jam), .second, .val (.long 9223372036854775807), .second, .val (.ref b132), .unset] [])) _
    refine st13 _ ?_
    show Steps p.tables e below (T13.setTop (mkF m 179 #[.val (.int p0), .val (.int p1), .val (.long p2), .second, .val (.int 3), .val (.int 0), .val (.int 0), .val (.int 1), .val (.int 0), .val (.long jam), .second, .val (.long 9223372036854775807), .second, .val (.ref b132), .val (.int 1)] [])) _
    refine st16 _ ?_
    show Steps p.tables e below (T16.setTop (mkF m 208 #[.val (.int p0), .val (.int p1), .val (.long p2), .second, .val (.int 3), .val (.int 0), .val (.int 0), .val (.int 1), .val (.int 0), .val (.long jam), .second, .val (.long 9223372036854775807), .second, .val (.ref b132), .val (.int 1)] [])) _
    refine st17 _ ?_
    show Steps p.tables e below (T17.setTop (mkF m 237 #[.val (.int p0), .val (.int p1), .val (.long p2), .second, .val (.int 3), .val (.int 0), .val (.int 0), .val (.int 1), .val (.int 0), .val (.long jam), .second, .val (.long 9223372036854775807), .second, .val (.ref b132), .val (.int 1)] [])) _
    refine st18 _ ?_
    refine XS.iload X18.here hx rfl (hb hby at_266) rfl ?_
    show Steps p.tables e below (T18.setTop (mkF m 268 #[.val (.int p0), .val (.int p1), .val (.long p2), .second, .val (.int 3), .val (.int 0), .val (.int 0), .val (.int 1), .val (.int 0), .val (.long jam), .second, .val (.long 9223372036854775807), .second, .val (.ref b132), .val (.int 1)] [(.int 1)])) _
    exact retN X18 hx (t := .boolean) Bd.returns (by simp) (hb hby at_268) hr
  · show QT n0 _ T18.heap _
    rw [e18]
    exact ⟨rfl, N18⟩
set_option maxRecDepth 65536 in
set_option maxHeartbeats 40000000 in
theorem sg20_144 {p : Program} {l : Launch} {e : Env} {s : State} {m : MethodId} {below : List Frame} {meth : Method} {c : Code} {T0 : State} {locs : List Loc} {Z : State} {a0 : Array Value} (p0 : Int32) (p1 : Int32) (p2 : Int64) (gq5 : Int32) {h0 : Heap} {n0 : Nat} (X0 : Stand p l e room_1 s m #[(.int p0), (.int p1), (.long p2)] below meth c T0 locs 0 0) (hx : p.tables.exec = Jvm.exec) (hZ : Z.Warmed39 s.vm) (hw : ∀ d ∈ tables_1, d.before a0 Z = true) (hby : c.code = code) (hml : c.maxLocals = 15) (hown : s.vm.findClass "hexwright/engine/SealedBidsHasBidPinLaw" = some m.cls) (e0 : T0.heap = h0) (N0 : Fr n0 locs) (Z0 : n0 ≤ h0.size) (f1 : ¬ ((p1 &&& (2 : Int32)) = (0 : Int32))) :
    ∃ (T : State) (L : List Loc), Stand p l e room_1 s m #[(.int p0), (.int p1), (.long p2)] below meth c T L 0 0 ∧ T.heap = h0 ∧ Fr n0 L ∧ (∀ target, Steps p.tables e below (T.setTop (mkF m 39 #[.val (.int p0), .val (.int p1), .val (.long p2), .second, .val (.int 3), .val (.int gq5), .val (.int 1), .unset, .unset, .unset, .unset, .unset, .unset, .unset, .unset] [])) target → Steps p.tables e below (T0.setTop (mkF m 20 #[.val (.int p0), .val (.int p1), .val (.long p2), .second, .val (.int 3), .val (.int gq5), .unset, .unset, .unset, .unset, .unset, .unset, .unset, .unset, .unset] [])) target) := by
  refine ⟨T0, _, X0, e0, N0, fun target kt => ?_⟩
  show Steps p.tables e below (T0.setTop (mkF m 20 #[.val (.int p0), .val (.int p1), .val (.long p2), .second, .val (.int 3), .val (.int gq5), .unset, .unset, .unset, .unset, .unset, .unset, .unset, .unset, .unset] [])) _
  refine XS.iload X0.here hx rfl (hb hby at_20) rfl ?_
  refine XS.iconst X0.here hx rfl (hb hby at_22) ?_
  refine XS.icmpNo X0.here hx rfl (hb hby at_23) rfl (by decide) ?_
  refine XS.iloadN X0.here hx rfl (hb hby at_26) rfl ?_
  refine XS.iconst X0.here hx rfl (hb hby at_27) ?_
  show Steps p.tables e below (T0.setTop (mkF m 28 #[.val (.int p0), .val (.int p1), .val (.long p2), .second, .val (.int 3), .val (.int gq5), .unset, .unset, .unset, .unset, .unset, .unset, .unset, .unset, .unset] [(.int 2), (.int p1)])) _
  refine XS.iand X0.here hx rfl (hb hby at_28) rfl ?_
  refine XS.ifNo X0.here hx rfl (hb hby at_29) rfl ((if0 _ _).trans (feq (f1 : ¬ ((p1 &&& (2 : Int32)) = (0 : Int32)))).1) ?_
  refine XS.iconst X0.here hx rfl (hb hby at_32) ?_
  refine XS.goto X0.here hx rfl (pc0 := 33) (pc' := 37) rfl (hb hby at_33) (by decide) (by decide) ?_
  refine XS.istore X0.here hx rfl (hb hby at_37) rfl (l' := #[.val (.int p0), .val (.int p1), .val (.long p2), .second, .val (.int 3), .val (.int gq5), .val (.int 1), .unset, .unset, .unset, .unset, .unset, .unset, .unset, .unset]) rfl ?_
  show Steps p.tables e below (T0.setTop (mkF m 39 #[.val (.int p0), .val (.int p1), .val (.long p2), .second, .val (.int 3), .val (.int gq5), .val (.int 1), .unset, .unset, .unset, .unset, .unset, .unset, .unset, .unset] [])) _
  exact kt
def Q3_150 (Z : State) (c1_a : Addr) (c2_k : ClassId) (gx0 : Value) (gx2 : Value) (h0 : Heap) (n0 : Nat) (v : Option Value) (h : Heap) (L : List Loc) : Prop := ∃ (bx148 : Addr), v = none ∧ Fr n0 L ∧ Keep h0 h [c1_a] ∧ Arv Z h c1_a c2_k (.object "java/lang/Long") (3 : Int32) [gx0, (.ref bx148), gx2] .null
set_option maxRecDepth 65536 in
set_option maxHeartbeats 40000000 in
theorem rm3_149 (l : Launch) (Z : State) (a0 : Array Value) (hw : ∀ d ∈ tables_1, d.before a0 Z = true) (ws : List Jvm.Cond) (c0_a : Addr) (jam : Int64) (c1_a : Addr) (c2_k : ClassId) (gx0 : Value) (gx2 : Value) (a_cache : Addr) (h0 : Heap) (n0 : Nat) (Z0 : n0 ≤ h0.size) (f1 : F_0 Z h0 c0_a (.ref c1_a)) (f2 : Arv Z h0 c1_a c2_k (.object "java/lang/Long") (3 : Int32) [gx0, .null, gx2] .null) (f3 : ¬ ((lcmpW jam (0 : Int64)) < (0 : Int32))) (f4 : ¬ ((0 : Int32) < (lcmpW jam (9223372036854775807 : Int64)))) (f5 : ¬ ((lcmpW jam (-128 : Int64)) < (0 : Int32))) (f6 : S_0 Z h0 (.ref a_cache)) (f7 : OwnAll Z h0 a_cache "java/lang/Long") (f8 : n0 ≤ c1_a) (f9 : Ovr Z c2_k "java/lang/Long") :
    MetFree l M_5 (head1 (Jvm.Cond.code M_5 prog_14_method_2_code 6 none :: ws) R_4_1_1_55) (fun a U => a = #[(.ref c0_a), (.int 2), (.long jam), (.long 9223372036854775807)] ∧ Z.Warmed39 U.vm ∧ U.heap = h0) (fun _ _ _ _ _ => True) (fun _ U o U' => ∃ v L, o = .returned v ∧ Q3_150 Z c1_a c2_k gx0 gx2 h0 n0 v U'.heap L ∧ FrameEnd U o U' L R_4_1_1_55.cells R_4_1_1_55.slots) := by
  refine MetFree.of_bodySF (plainFor_of_name pn_hexwright_engine_SealedBids) hisR ?_
  intro p e s m args below meth c s₁ Bd hml0 hP hK
  obtain ⟨rfl, hZ, hh⟩ := hP
  have hx := Bd.exec
  have hby := Bd.bytes
  have hml : c.maxLocals = 6 := hml0
  have hown : s.vm.findClass "hexwright/engine/SealedBids" = some m.cls := findClass_of_methodNamed Bd.named
  have hnm := (name_of_methodNamed Bd.named Bd.method).1
  have X0 : Stand p l e R_4_1_1_55 s m #[(.ref c0_a), (.int 2), (.long jam), (.long 9223372036854775807)] below meth c s₁ [] 0 0 := Stand.of_body Bd
  have e0 : s₁.heap = h0 := by rw [← hh, Bd.state]; rfl
  have N0 := Fr.nil n0
  obtain ⟨T1, X1, e1, st1⟩ := getF X0 hx hZ hown (host := "") (Or.inl (tw_12 hw)) Via.refl e0 f1 (g := (mkF m 1 #[.val (.ref c0_a), .val (.int 2), .val (.long jam), .second, .val (.long 9223372036854775807), .second] [(.ref c0_a)])) rfl rfl (hb hby d3_1)
  have va2 := f2
  obtain ⟨cl2, Ar2, -, S2, -, H2, -⟩ := va2
  have hin2 : ¬ ((1 : Int32) < 0 ∨ cl2.slots.size ≤ ((1 : Int32)).toNatClampNeg) := inb_of S2 ⟨by decide, by decide⟩
  have hat2 : cl2.slots[((1 : Int32)).toNatClampNeg]? = some .null := H2 _ (Nat.lt_of_not_le fun y => hin2 (Or.inr y))
  obtain ⟨T3, X3, e3, st3⟩ := getF X1 hx hZ hown (host := "") (Or.inl (tw_12 hw)) Via.refl e1 f1 (g := (mkF m 56 #[.val (.ref c0_a), .val (.int 2), .val (.long jam), .second, .val (.long 9223372036854775807), .second] [(.ref c0_a)])) rfl rfl (hb hby d3_56)
  -- pc 63: java/lang/Long.valueOf
  obtain ⟨_, _, ⟨T4, L4, k4, n4⟩, -, X4, ⟨Lc4, hQ4, l4, y4, z4⟩, st4⟩ := Jvm.LawKit.callS X3 hx (y := M_4) hown (mvT hZ (tw_19 hw)) (mvT hZ (tw_20 hw)) (mvT hZ (tw_21 hw)) (mvT hZ (tw_22 hw)) (by decide) (backOf (W := 2) (rmB_38 l Z a0 hw [] jam a_cache h0 n0 Z0 f5 f6 f7) hZ (tw_22 hw) (tw_21 hw) (by decide) (by decide)) (g := (mkF m 63 #[.val (.ref c0_a), .val (.int 2), .val (.long jam), .second, .val (.long 9223372036854775807), .second] [(.long jam), (.int 1), (.ref c1_a)])) rfl (by rw [hml]; rfl) (argsL := [(.long jam)]) (rest := [(.int 1), (.ref c1_a)]) (lenOf pd_4 rfl) rfl (by show 2 * 0 + _ ≤ _; exact Nat.le_of_eq rfl) (hb hby d3_63) (fun _ _ => ⟨rfl, e3, (by decide : 0 + 1 ≤ _), (by decide : 0 + 1 ≤ _)⟩)
  dsimp only [Pt.U, Pt.locs, Pt.cells, Pt.slots] at X4 l4 y4 z4 st4 hQ4
  subst l4 y4 z4
  obtain ⟨bx148, rfl, Nq4, K4, o4_0⟩ := hQ4
  have N4 := Fr.app N0 Nq4
  have KK4 : Keep h0 T4.heap [c1_a] := (Keep.refl h0 [c1_a]).trans K4 (fun x hx => nomatch hx)
  have u5 : Arv Z T4.heap c1_a c2_k (.object "java/lang/Long") (3 : Int32) [gx0, .null, gx2] .null := Arv.keep f2 K4 List.not_mem_nil
  have va6 := u5
  obtain ⟨cl6, Ar6, q6, S6, N6_, H6, G6⟩ := va6
  have hin6 : ¬ ((1 : Int32) < 0 ∨ cl6.slots.size ≤ ((1 : Int32)).toNatClampNeg) := inb_of S6 ⟨by decide, by decide⟩
  obtain ⟨T7, h7, X7, e7, W7, st7⟩ := stR X4 hx hZ rfl Ar6 (j := (1 : Int32)) hin6 rfl (Sto.ofV Ar6 q6 f9 (Ins.self o4_0)) (g := (mkF m 66 #[.val (.ref c0_a), .val (.int 2), .val (.long jam), .second, .val (.long 9223372036854775807), .second] [(.ref bx148), (.int 1), (.ref c1_a)])) rfl rfl (hb hby d3_66)
  have Vw7 : Arv Z h7 c1_a c2_k (.object "java/lang/Long") (3 : Int32) [gx0, (.ref bx148), gx2] .null := Arv.set Ar6 q6 S6 N6_ H6 G6 rfl W7 1 rfl (Nat.le_of_ble_eq_true rfl)
  have KK7 : Keep h0 h7 [c1_a] := KK4.wr W7 (Or.inl (List.mem_of_getElem? (i := 0) rfl))
  have N7 := Fr.snoc X7 N4 f8
  obtain ⟨fs, hr, hrun, hended, hW, hsame⟩ := X7.leave (v := none) (fun _ => rfl)
  refine ⟨_, _, castTop (ef3_RIJJ m c0_a (2 : Int32) jam (9223372036854775807 : Int64)) ?_, hrun, hended, _, _, rfl, ?_, ⟨_, rfl⟩, hW, hsame.mono (by decide) (by decide)⟩
  · show Steps p.tables e below (s₁.setTop (mkF m 0 #[.val (.ref c0_a), .val (.int 2), .val (.long jam), .second, .val (.long 9223372036854775807), .second] [])) _
    refine XS.aloadN X0.here hx rfl (hb hby d3_0) rfl rfl ?_
    show Steps p.tables e below (s₁.setTop (mkF m 1 #[.val (.ref c0_a), .val (.int 2), .val (.long jam), .second, .val (.long 9223372036854775807), .second] [(.ref c0_a)])) _
    refine st1 _ ?_
    refine XS.iloadN X1.here hx rfl (hb hby d3_4) rfl ?_
    refine XS.iconst X1.here hx rfl (hb hby d3_5) ?_
    show Steps p.tables e below (T1.setTop (mkF m 6 #[.val (.ref c0_a), .val (.int 2), .val (.long jam), .second, .val (.long 9223372036854775807), .second] [(.int 1), (.int 2), (.ref c1_a)])) _
    refine XS.isub X1.here hx rfl (hb hby d3_6) rfl ?_
    show Steps p.tables e below (T1.setTop (mkF m 7 #[.val (.ref c0_a), .val (.int 2), .val (.long jam), .second, .val (.long 9223372036854775807), .second] [(.int ((2 : Int32) - (1 : Int32))), (.ref c1_a)])) _
    rw [show ((2 : Int32) - (1 : Int32)) = (1 : Int32) from by decide]
    show Steps p.tables e below (T1.setTop (mkF m 7 #[.val (.ref c0_a), .val (.int 2), .val (.long jam), .second, .val (.long 9223372036854775807), .second] [(.int 1), (.ref c1_a)])) _
    refine X1.aaload hx (j := (1 : Int32)) (v := .null) (by rw [e1]; exact Ar2.1) (State.isArrayOf_alike hZ.alike Ar2.2.1) rfl Ar2.2.2 hin2 hat2 (g := (mkF m 7 #[.val (.ref c0_a), .val (.int 2), .val (.long jam), .second, .val (.long 9223372036854775807), .second] [(.int 1), (.ref c1_a)])) rfl rfl (hb hby d3_7) _ ?_
    refine XS.ifnullYes X1.here hx rfl (pc0 := 8) (pc' := 25) rfl (hb hby d3_8) rfl (by decide) (by decide) ?_
    refine XS.lloadN X1.here hx rfl (hb hby d3_25) rfl ?_
    refine XS.lconst X1.here hx rfl (hb hby d3_26) ?_
    show Steps p.tables e below (T1.setTop (mkF m 27 #[.val (.ref c0_a), .val (.int 2), .val (.long jam), .second, .val (.long 9223372036854775807), .second] [(.long 0), (.long jam)])) _
    refine XS.lcmp X1.here hx rfl (hb hby d3_27) rfl ?_
    refine XS.ifNo X1.here hx rfl (hb hby d3_28) rfl ((if0 _ _).trans (flt (f3 : ¬ ((lcmpW jam (0 : Int64)) < (0 : Int32)))).1) ?_
    refine XS.lloadN X1.here hx rfl (hb hby d3_31) rfl ?_
    refine XS.lload X1.here hx rfl (hb hby d3_32) rfl ?_
    show Steps p.tables e below (T1.setTop (mkF m 34 #[.val (.ref c0_a), .val (.int 2), .val (.long jam), .second, .val (.long 9223372036854775807), .second] [(.long 9223372036854775807), (.long jam)])) _
    refine XS.lcmp X1.here hx rfl (hb hby d3_34) rfl ?_
    refine XS.ifYes X1.here hx rfl (pc0 := 35) (pc' := 55) rfl (hb hby d3_35) rfl ((if0 _ _).trans (flt (f4 : ¬ ((0 : Int32) < (lcmpW jam (9223372036854775807 : Int64))))).2.2.2) (by decide) (by decide) ?_
    refine XS.aloadN X1.here hx rfl (hb hby d3_55) rfl rfl ?_
    show Steps p.tables e below (T1.setTop (mkF m 56 #[.val (.ref c0_a), .val (.int 2), .val (.long jam), .second, .val (.long 9223372036854775807), .second] [(.ref c0_a)])) _
    refine st3 _ ?_
    refine XS.iloadN X3.here hx rfl (hb hby d3_59) rfl ?_
    refine XS.iconst X3.here hx rfl (hb hby d3_60) ?_
    show Steps p.tables e below (T3.setTop (mkF m 61 #[.val (.ref c0_a), .val (.int 2), .val (.long jam), .second, .val (.long 9223372036854775807), .second] [(.int 1), (.int 2), (.ref c1_a)])) _
    refine XS.isub X3.here hx rfl (hb hby d3_61) rfl ?_
    show Steps p.tables e below (T3.setTop (mkF m 62 #[.val (.ref c0_a), .val (.int 2), .val (.long jam), .second, .val (.long 9223372036854775807), .second] [(.int ((2 : Int32) - (1 : Int32))), (.ref c1_a)])) _
    rw [show ((2 : Int32) - (1 : Int32)) = (1 : Int32) from by decide]
    refine XS.lloadN X3.here hx rfl (hb hby d3_62) rfl ?_
    show Steps p.tables e below (T3.setTop (mkF m 63 #[.val (.ref c0_a), .val (.int 2), .val (.long jam), .second, .val (.long 9223372036854775807), .second] [(.long jam), (.int 1), (.ref c1_a)])) _
    refine st4 _ ?_
    show Steps p.tables e below (T4.setTop (mkF m 66 #[.val (.ref c0_a), .val (.int 2), .val (.long jam), .second, .val (.long 9223372036854775807), .second] [(.ref bx148), (.int 1), (.ref c1_a)])) _
    refine st7 _ ?_
    show Steps p.tables e below (T7.setTop (mkF m 67 #[.val (.ref c0_a), .val (.int 2), .val (.long jam), .second, .val (.long 9223372036854775807), .second] [])) _
    exact X7.returnOut hx Bd.returns (hb hby d3_67) hr
  · show Q3_150 Z c1_a c2_k gx0 gx2 h0 n0 _ T7.heap _
    rw [e7]
    exact ⟨bx148, rfl, N7, KK7, Vw7⟩
set_option maxRecDepth 65536 in
set_option maxHeartbeats 40000000 in
theorem sg116_152 {p : Program} {l : Launch} {e : Env} {s : State} {m : MethodId} {below : List Frame} {meth : Method} {c : Code} {T0 : State} {locs : List Loc} {Z : State} {a0 : Array Value} (p0 : Int32) (p1 : Int32) (p2 : Int64) (gq4 : Int32) (gq5 : Int32) (gq7 : Int32) (gq8 : Int32) (jam : Int64) (c0_a : Addr) (c1_a : Addr) (c2_k : ClassId) (gx0 : Value) (gx2 : Value) (a_cache : Addr) {h0 : Heap} {n0 : Nat} (X0 : Stand p l e room_1 s m #[(.int p0), (.int p1), (.long p2)] below meth c T0 locs 3 5) (hx : p.tables.exec = Jvm.exec) (hZ : Z.Warmed39 s.vm) (hw : ∀ d ∈ tables_1, d.before a0 Z = true) (hby : c.code = code) (hml : c.maxLocals = 15) (hown : s.vm.findClass "hexwright/engine/SealedBidsHasBidPinLaw" = some m.cls) (e0 : T0.heap = h0) (N0 : Fr n0 locs) (Z0 : n0 ≤ h0.size) (f1 : F_0 Z h0 c0_a (.ref c1_a)) (f2 : Arv Z h0 c1_a c2_k (.object "java/lang/Long") (3 : Int32) [gx0, .null, gx2] .null) (f3 : ¬ ((lcmpW jam (0 : Int64)) < (0 : Int32))) (f4 : ¬ ((0 : Int32) < (lcmpW jam (9223372036854775807 : Int64)))) (f5 : ¬ ((lcmpW jam (-128 : Int64)) < (0 : Int32))) (f6 : S_0 Z h0 (.ref a_cache)) (f7 : OwnAll Z h0 a_cache "java/lang/Long") (f8 : n0 ≤ c1_a) (f9 : Ovr Z c2_k "java/lang/Long") (f10 : E_1 Z h0 c0_a) :
    ∃ (T : State) (h : Heap) (L : List Loc) (bx151 : Addr), Stand p l e room_1 s m #[(.int p0), (.int p1), (.long p2)] below meth c T L 4 6 ∧ T.heap = h ∧ Fr n0 L ∧ Keep h0 h [c1_a] ∧ Arv Z h c1_a c2_k (.object "java/lang/Long") (3 : Int32) [gx0, (.ref bx151), gx2] .null ∧ (∀ target, Steps p.tables e below (T.setTop (mkF m 131 #[.val (.int p0), .val (.int p1), .val (.long p2), .second, .val (.int gq4), .val (.int gq5), .val (.int 1), .val (.int gq7), .val (.int gq8), .val (.long jam), .second, .val (.long 9223372036854775807), .second, .val (.ref c0_a), .unset] [])) target → Steps p.tables e below (T0.setTop (mkF m 116 #[.val (.int p0), .val (.int p1), .val (.long p2), .second, .val (.int gq4), .val (.int gq5), .val (.int 1), .val (.int gq7), .val (.int gq8), .val (.long jam), .second, .val (.long 9223372036854775807), .second, .val (.ref c0_a), .unset] [])) target) := by
  -- pc 128: hexwright/engine/SealedBids.bid
  obtain ⟨cq1, kq1, q1a, q1b, q1c⟩ := isOf hZ e0 f10
  obtain ⟨_, _, ⟨T1, L1, k1, n1⟩, -, X1, ⟨Lc1, hQ1, l1, y1, z1⟩, st1⟩ := X0.virtualBack hx (y := M_5) (z := M_5) hown (mvT hZ (tw_14 hw)) (mvT hZ (tw_15 hw)) (notFace_of_selects (args := #[]) (mvT hZ (tw_17 hw))) (mvT hZ (tw_17 hw)) (mvT hZ (tw_16 hw)) (by decide) (backOf (W := 0) (rm3_149 l Z a0 hw [] c0_a jam c1_a c2_k gx0 gx2 a_cache h0 n0 Z0 f1 f2 f3 f4 f5 f6 f7 f8 f9) hZ (tw_18 hw) (tw_3 hw) (by decide) (by decide)) q1a q1c (g := (mkF m 128 #[.val (.int p0), .val (.int p1), .val (.long p2), .second, .val (.int gq4), .val (.int gq5), .val (.int 1), .val (.int gq7), .val (.int gq8), .val (.long jam), .second, .val (.long 9223372036854775807), .second, .val (.ref c0_a), .unset] [(.long 9223372036854775807), (.long jam), (.int 2), (.ref c0_a)])) rfl (by rw [hml]; rfl) (Steps.refl _) (argsL := [(.int 2), (.long jam), (.long 9223372036854775807)]) (rest := []) (lenOf pd_5 rfl) rfl (by show 2 * 0 + _ ≤ _; exact Nat.le_of_eq rfl) (hb hby at_128) (fun _ _ => ⟨rfl, e0, (by decide : 3 + 1 ≤ _), (by decide : 5 + 1 ≤ _)⟩)
  dsimp only [Pt.U, Pt.locs, Pt.cells, Pt.slots] at X1 l1 y1 z1 st1 hQ1
  subst l1 y1 z1
  obtain ⟨bx151, rfl, Nq1, K1, o1_0⟩ := hQ1
  have N1 := Fr.app N0 Nq1
  have KK1 : Keep h0 T1.heap [c1_a] := (Keep.refl h0 [c1_a]).trans K1 (fun x hx => (List.mem_cons.mp hx).elim (fun q => q ▸ (Or.inl (List.mem_of_getElem? (i := 0) rfl))) (fun hx => nomatch hx))
  refine ⟨T1, _, _, bx151, (X1.more (by decide) (by decide)), rfl, N1, KK1, o1_0, fun target kt => ?_⟩
  show Steps p.tables e below (T0.setTop (mkF m 116 #[.val (.int p0), .val (.int p1), .val (.long p2), .second, .val (.int gq4), .val (.int gq5), .val (.int 1), .val (.int gq7), .val (.int gq8), .val (.long jam), .second, .val (.long 9223372036854775807), .second, .val (.ref c0_a), .unset] [])) _
  refine XS.iload X0.here hx rfl (hb hby at_116) rfl ?_
  refine XS.ifNo X0.here hx rfl (hb hby at_118) rfl (by decide) ?_
  refine XS.aload X0.here hx rfl (hb hby at_121) rfl rfl ?_
  refine XS.iconst X0.here hx rfl (hb hby at_123) ?_
  refine XS.lload X0.here hx rfl (hb hby at_124) rfl ?_
  show Steps p.tables e below (T0.setTop (mkF m 126 #[.val (.int p0), .val (.int p1), .val (.long p2), .second, .val (.int gq4), .val (.int gq5), .val (.int 1), .val (.int gq7), .val (.int gq8), .val (.long jam), .second, .val (.long 9223372036854775807), .second, .val (.ref c0_a), .unset] [(.long jam), (.int 2), (.ref c0_a)])) _
  refine XS.lload X0.here hx rfl (hb hby at_126) rfl ?_
  show Steps p.tables e below (T0.setTop (mkF m 128 #[.val (.int p0), .val (.int p1), .val (.long p2), .second, .val (.int gq4), .val (.int gq5), .val (.int 1), .val (.int gq7), .val (.int gq8), .val (.long jam), .second, .val (.long 9223372036854775807), .second, .val (.ref c0_a), .unset] [(.long 9223372036854775807), (.long jam), (.int 2), (.ref c0_a)])) _
  refine st1.trans ?_
  show Steps p.tables e below (T1.setTop (mkF m 131 #[.val (.int p0), .val (.int p1), .val (.long p2), .second, .val (.int gq4), .val (.int gq5), .val (.int 1), .val (.int gq7), .val (.int gq8), .val (.long jam), .second, .val (.long 9223372036854775807), .second, .val (.ref c0_a), .unset] [])) _
  exact kt
set_option maxRecDepth 65536 in
set_option maxHeartbeats 40000000 in
theorem rm5_154 (l : Launch) (Z : State) (a0 : Array Value) (hw : ∀ d ∈ tables_1, d.before a0 Z = true) (ws : List Jvm.Cond) (c0_a : Addr) (c1_a : Addr) (c2_k : ClassId) (gx0 : Value) (c3_a : Addr) (gx2 : Value) (h0 : Heap) (n0 : Nat) (Z0 : n0 ≤ h0.size) (f1 : F_0 Z h0 c0_a (.ref c1_a)) (f2 : Arv Z h0 c1_a c2_k (.object "java/lang/Long") (3 : Int32) [gx0, (.ref c3_a), gx2] .null) :
    MetFree l M_1 (head1 (Jvm.Cond.code M_1 prog_14_method_4_code 2 (some .boolean) :: ws) R_0_0_0_0) (fun a U => a = #[(.ref c0_a), (.int 2)] ∧ Z.Warmed39 U.vm ∧ U.heap = h0) (fun _ _ _ _ _ => True) (fun _ U o U' => ∃ v L, o = .returned v ∧ QP (some (.int 1)) h0 n0 v U'.heap L ∧ FrameEnd U o U' L R_0_0_0_0.cells R_0_0_0_0.slots) := by
  refine MetFree.of_bodySF (plainFor_of_name pn_hexwright_engine_SealedBids) hisR ?_
  intro p e s m args below meth c s₁ Bd hml0 hP hK
  obtain ⟨rfl, hZ, hh⟩ := hP
  have hx := Bd.exec
  have hby := Bd.bytes
  have hml : c.maxLocals = 2 := hml0
  have hown : s.vm.findClass "hexwright/engine/SealedBids" = some m.cls := findClass_of_methodNamed Bd.named
  have hnm := (name_of_methodNamed Bd.named Bd.method).1
  have X0 : Stand p l e R_0_0_0_0 s m #[(.ref c0_a), (.int 2)] below meth c s₁ [] 0 0 := Stand.of_body Bd
  have e0 : s₁.heap = h0 := by rw [← hh, Bd.state]; rfl
  have N0 := Fr.nil n0
  obtain ⟨T1, X1, e1, st1⟩ := getF X0 hx hZ hown (host := "") (Or.inl (tw_12 hw)) Via.refl e0 f1 (g := (mkF m 1 #[.val (.ref c0_a), .val (.int 2)] [(.ref c0_a)])) rfl rfl (hb hby d5_1)
  have va2 := f2
  obtain ⟨cl2, Ar2, -, S2, -, H2, -⟩ := va2
  have hin2 : ¬ ((1 : Int32) < 0 ∨ cl2.slots.size ≤ ((1 : Int32)).toNatClampNeg) := inb_of S2 ⟨by decide, by decide⟩
  have hat2 : cl2.slots[((1 : Int32)).toNatClampNeg]? = some (.ref c3_a) := H2 _ (Nat.lt_of_not_le fun y => hin2 (Or.inr y))
  obtain ⟨fs, hr, hrun, hended, hW, hsame⟩ := X1.leave (v := (some (.int 1))) (fun h => by rw [Bd.returns] at h; cases h)
  refine ⟨_, _, castTop (ef5_RI m c0_a (2 : Int32)) ?_, hrun, hended, _, _, rfl, ?_, ⟨_, rfl⟩, hW, hsame.mono (by decide) (by decide)⟩
  · show Steps p.tables e below (s₁.setTop (mkF m 0 #[.val (.ref c0_a), .val (.int 2)] [])) _
    refine XS.aloadN X0.here hx rfl (hb hby d5_0) rfl rfl ?_
    show Steps p.tables e below (s₁.setTop (mkF m 1 #[.val (.ref c0_a), .val (.int 2)] [(.ref c0_a)])) _
    refine st1 _ ?_
    refine XS.iloadN X1.here hx rfl (hb hby d5_4) rfl ?_
    refine XS.iconst X1.here hx rfl (hb hby d5_5) ?_
    show Steps p.tables e below (T1.setTop (mkF m 6 #[.val (.ref c0_a), .val (.int 2)] [(.int 1), (.int 2), (.ref c1_a)])) _
    refine XS.isub X1.here hx rfl (hb hby d5_6) rfl ?_
    show Steps p.tables e below (T1.setTop (mkF m 7 #[.val (.ref c0_a), .val (.int 2)] [(.int ((2 : Int32) - (1 : Int32))), (.ref c1_a)])) _
    rw [show ((2 : Int32) - (1 : Int32)) = (1 : Int32) from by decide]
    show Steps p.tables e below (T1.setTop (mkF m 7 #[.val (.ref c0_a), .val (.int 2)] [(.int 1), (.ref c1_a)])) _
    refine X1.aaload hx (j := (1 : Int32)) (v := (.ref c3_a)) (by rw [e1]; exact Ar2.1) (State.isArrayOf_alike hZ.alike Ar2.2.1) rfl Ar2.2.2 hin2 hat2 (g := (mkF m 7 #[.val (.ref c0_a), .val (.int 2)] [(.int 1), (.ref c1_a)])) rfl rfl (hb hby d5_7) _ ?_
    refine XS.ifnullNo X1.here hx rfl (hb hby d5_8) rfl ?_
    refine XS.iconst X1.here hx rfl (hb hby d5_11) ?_
    refine XS.goto X1.here hx rfl (pc0 := 12) (pc' := 16) rfl (hb hby d5_12) (by decide) (by decide) ?_
    show Steps p.tables e below (T1.setTop (mkF m 16 #[.val (.ref c0_a), .val (.int 2)] [(.int 1)])) _
    exact retN X1 hx (t := .boolean) Bd.returns (by simp) (hb hby d5_16) hr
  · show QP (some (.int 1)) h0 n0 _ T1.heap _
    rw [e1]
    exact ⟨rfl, N0, rfl⟩
set_option maxRecDepth 65536 in
set_option maxHeartbeats 40000000 in
theorem sg179_155 {p : Program} {l : Launch} {e : Env} {s : State} {m : MethodId} {below : List Frame} {meth : Method} {c : Code} {T0 : State} {locs : List Loc} {Z : State} {a0 : Array Value} (p0 : Int32) (p1 : Int32) (p2 : Int64) (gq5 : Int32) (gq7 : Int32) (gq8 : Int32) (jam : Int64) (gq11 : Int64) (c0_a : Addr) (c1_a : Addr) (c2_k : ClassId) (gx0 : Value) (c3_a : Addr) (gx2 : Value) {h0 : Heap} {n0 : Nat} (X0 : Stand p l e room_1 s m #[(.int p0), (.int p1), (.long p2)] below meth c T0 locs 6 8) (hx : p.tables.exec = Jvm.exec) (hZ : Z.Warmed39 s.vm) (hw : ∀ d ∈ tables_1, d.before a0 Z = true) (hby : c.code = code) (hml : c.maxLocals = 15) (hown : s.vm.findClass "hexwright/engine/SealedBidsHasBidPinLaw" = some m.cls) (e0 : T0.heap = h0) (N0 : Fr n0 locs) (Z0 : n0 ≤ h0.size) (f1 : F_0 Z h0 c0_a (.ref c1_a)) (f2 : Arv Z h0 c1_a c2_k (.object "java/lang/Long") (3 : Int32) [gx0, (.ref c3_a), gx2] .null) (f3 : E_1 Z h0 c0_a) :
    ∃ (T : State) (L : List Loc), Stand p l e room_1 s m #[(.int p0), (.int p1), (.long p2)] below meth c T L 6 8 ∧ T.heap = h0 ∧ Fr n0 L ∧ (∀ target, Steps p.tables e below (T.setTop (mkF m 208 #[.val (.int p0), .val (.int p1), .val (.long p2), .second, .val (.int 3), .val (.int gq5), .val (.int 1), .val (.int gq7), .val (.int gq8), .val (.long jam), .second, .val (.long gq11), .second, .val (.ref c0_a), .val (.int 1)] [])) target → Steps p.tables e below (T0.setTop (mkF m 179 #[.val (.int p0), .val (.int p1), .val (.long p2), .second, .val (.int 3), .val (.int gq5), .val (.int 1), .val (.int gq7), .val (.int gq8), .val (.long jam), .second, .val (.long gq11), .second, .val (.ref c0_a), .val (.int 1)] [])) target) := by
  -- pc 193: hexwright/engine/SealedBids.hasBid
  obtain ⟨cq1, kq1, q1a, q1b, q1c⟩ := isOf hZ e0 f3
  obtain ⟨_, _, ⟨T1, L1, k1, n1⟩, -, X1, ⟨Lc1, hQ1, l1, y1, z1⟩, st1⟩ := X0.virtualBack hx (y := M_1) (z := M_1) hown (mvT hZ (tw_28 hw)) (mvT hZ (tw_29 hw)) (notFace_of_selects (args := #[]) (mvT hZ (tw_31 hw))) (mvT hZ (tw_31 hw)) (mvT hZ (tw_30 hw)) (by decide) (backOf (W := 0) (rm5_154 l Z a0 hw [] c0_a c1_a c2_k gx0 c3_a gx2 h0 n0 Z0 f1 f2) hZ (tw_32 hw) (tw_3 hw) (by decide) (by decide)) q1a q1c (g := (mkF m 193 #[.val (.int p0), .val (.int p1), .val (.long p2), .second, .val (.int 3), .val (.int gq5), .val (.int 1), .val (.int gq7), .val (.int gq8), .val (.long jam), .second, .val (.long gq11), .second, .val (.ref c0_a), .val (.int 1)] [(.int 2), (.ref c0_a)])) rfl (by rw [hml]; rfl) (Steps.refl _) (argsL := [(.int 2)]) (rest := []) (lenOf pd_1 rfl) rfl (by show 2 * 0 + _ ≤ _; exact Nat.le_of_eq rfl) (hb hby at_193) (fun _ _ => ⟨rfl, e0, (by decide : 6 + 0 ≤ _), (by decide : 8 + 0 ≤ _)⟩)
  dsimp only [Pt.U, Pt.locs, Pt.cells, Pt.slots] at X1 l1 y1 z1 st1 hQ1
  subst l1 y1 z1
  obtain ⟨rfl, Nq1, e1⟩ := hQ1
  have N1 := Fr.app N0 Nq1
  refine ⟨T1, _, X1, e1, N1, fun target kt => ?_⟩
  show Steps p.tables e below (T0.setTop (mkF m 179 #[.val (.int p0), .val (.int p1), .val (.long p2), .second, .val (.int 3), .val (.int gq5), .val (.int 1), .val (.int gq7), .val (.int gq8), .val (.long jam), .second, .val (.long gq11), .second, .val (.ref c0_a), .val (.int 1)] [])) _
  refine XS.iload X0.here hx rfl (hb hby at_179) rfl ?_
  refine XS.iconst X0.here hx rfl (hb hby at_181) ?_
  refine XS.icmpNo X0.here hx rfl (hb hby at_182) rfl (by decide) ?_
  refine XS.iload X0.here hx rfl (hb hby at_185) rfl ?_
  refine XS.ifNo X0.here hx rfl (hb hby at_187) rfl (by decide) ?_
  show Steps p.tables e below (T0.setTop (mkF m 190 #[.val (.int p0), .val (.int p1), .val (.long p2), .second, .val (.int 3), .val (.int gq5), .val (.int 1), .val (.int gq7), .val (.int gq8), .val (.long jam), .second, .val (.long gq11), .second, .val (.ref c0_a), .val (.int 1)] [])) _
  refine XS.aload X0.here hx rfl (hb hby at_190) rfl rfl ?_
  refine XS.iconst X0.here hx rfl (hb hby at_192) ?_
  show Steps p.tables e below (T0.setTop (mkF m 193 #[.val (.int p0), .val (.int p1), .val (.long p2), .second, .val (.int 3), .val (.int gq5), .val (.int 1), .val (.int gq7), .val (.int gq8), .val (.long jam), .second, .val (.long gq11), .second, .val (.ref c0_a), .val (.int 1)] [(.int 2), (.ref c0_a)])) _
  refine st1.trans ?_
  refine XS.iload X1.here hx rfl (hb hby at_196) rfl ?_
  refine XS.icmpNo X1.here hx rfl (hb hby at_198) rfl (by decide) ?_
  refine XS.iconst X1.here hx rfl (hb hby at_201) ?_
  refine XS.goto X1.here hx rfl (pc0 := 202) (pc' := 206) rfl (hb hby at_202) (by decide) (by decide) ?_
  show Steps p.tables e below (T1.setTop (mkF m 206 #[.val (.int p0), .val (.int p1), .val (.long p2), .second, .val (.int 3), .val (.int gq5), .val (.int 1), .val (.int gq7), .val (.int gq8), .val (.long jam), .second, .val (.long gq11), .second, .val (.ref c0_a), .val (.int 1)] [(.int 1)])) _
  refine XS.istore X1.here hx rfl (hb hby at_206) rfl (l' := #[.val (.int p0), .val (.int p1), .val (.long p2), .second, .val (.int 3), .val (.int gq5), .val (.int 1), .val (.int gq7), .val (.int gq8), .val (.long jam), .second, .val (.long gq11), .second, .val (.ref c0_a), .val (.int 1)]) rfl ?_
  show Steps p.tables e below (T1.setTop (mkF m 208 #[.val (.int p0), .val (.int p1), .val (.long p2), .second, .val (.int 3), .val (.int gq5), .val (.int 1), .val (.int gq7), .val (.int gq8), .val (.long jam), .second, .val (.long gq11), .second, .val (.ref c0_a), .val (.int 1)] [])) _
  exact kt
set_option maxRecDepth 65536 in
set_option maxHeartbeats 40000000 in
theorem rm0_156 (l : Launch) (Z : State) (a0 : Array Value) (hw : ∀ d ∈ tables_1, d.before a0 Z = true) (ws : List Jvm.Cond) (p0 : Int32) (p1 : Int32) (p2 : Int64) (jam : Int64) (a_cache : Addr) (h0 : Heap) (n0 : Nat) (Z0 : n0 ≤ h0.size) (f1 : (p0 &&& (3 : Int32)) = (2 : Int32)) (f2 : (p1 &&& (1 : Int32)) = (0 : Int32)) (f3 : ¬ ((p1 &&& (2 : Int32)) = (0 : Int32))) (f4 : (p1 &&& (4 : Int32)) = (0 : Int32)) (f5 : (p2 &&& (9223372036854775807 : Int64)) = jam) (f6 : ¬ ((lcmpW jam (0 : Int64)) < (0 : Int32))) (f7 : ¬ ((0 : Int32) < (lcmpW jam (9223372036854775807 : Int64)))) (f8 : ¬ ((lcmpW jam (-128 : Int64)) < (0 : Int32))) (f9 : S_0 Z h0 (.ref a_cache)) (f10 : OwnAll Z h0 a_cache "java/lang/Long") :
    MetFree l x (head1 (Jvm.Cond.code x code maxLocals ret :: ws) room_1) (fun a U => a = #[(.int p0), (.int p1), (.long p2)] ∧ Z.Warmed39 U.vm ∧ U.heap = h0) (fun _ _ _ _ _ => True) (fun _ U o U' => ∃ v L, o = .returned v ∧ QT n0 v U'.heap L ∧ FrameEnd U o U' L room_1.cells room_1.slots) := by
  refine MetFree.of_bodySF (plainFor_of_name pn_hexwright_engine_SealedBidsHasBidPinLaw) hisR ?_
  intro p e s m args below meth c s₁ Bd hml0 hP hK
  obtain ⟨rfl, hZ, hh⟩ := hP
  have hx := Bd.exec
  have hby := Bd.bytes
  have hml : c.maxLocals = 15 := hml0
  have hown : s.vm.findClass "hexwright/engine/SealedBidsHasBidPinLaw" = some m.cls := findClass_of_methodNamed Bd.named
  have hnm := (name_of_methodNamed Bd.named Bd.method).1
  have X0 : Stand p l e room_1 s m #[(.int p0), (.int p1), (.long p2)] below meth c s₁ [] 0 0 := Stand.of_body Bd
  have e0 : s₁.heap = h0 := by rw [← hh, Bd.state]; rfl
  have N0 := Fr.nil n0
  obtain ⟨T1, L1, X1, e1, N1, st1⟩ := sg7_1 p0 p1 p2 (3 : Int32) X0 hx hZ hw hby hml hown e0 N0 Z0 f2
  obtain ⟨T2, L2, X2, e2, N2, st2⟩ := sg20_144 p0 p1 p2 (0 : Int32) X1 hx hZ hw hby hml hown e1 N1 Z0 f3
  obtain ⟨T3, L3, X3, e3, N3, st3⟩ := sg39_106 p0 p1 p2 (0 : Int32) (1 : Int32) X2 hx hZ hw hby hml hown e2 N2 Z0 f4
  obtain ⟨T4, L4, X4, e4, N4, st4⟩ := sg58_107 p0 p1 p2 (0 : Int32) (1 : Int32) (0 : Int32) X3 hx hZ hw hby hml hown e3 N3 Z0 
  obtain ⟨T5, L5, X5, e5, N5, st5⟩ := sg78_5 p0 p1 p2 (3 : Int32) (0 : Int32) (1 : Int32) (0 : Int32) (0 : Int32) jam X4 hx hZ hw hby hml hown e4 N4 Z0 f5
  obtain ⟨T6, h6, L6, b145, b146, kc147, X6, e6, N6, K6, le_b145, le_b146, o6_0, o6_1, o6_2, o6_3, o6_4, st6⟩ := sg90_115 p0 p1 p2 (0 : Int32) (1 : Int32) (0 : Int32) (0 : Int32) jam (9223372036854775807 : Int64) X5 hx hZ hw hby hml hown e5 N5 Z0 
  have sz_b145 : h0.size ≤ b145 := Nat.le_trans (Nat.le_refl _) le_b145
  have g_b145 : n0 ≤ b145 := Nat.le_trans Z0 sz_b145
  have sz_b146 : h0.size ≤ b146 := Nat.le_trans (Nat.le_refl _) le_b146
  have g_b146 : n0 ≤ b146 := Nat.le_trans Z0 sz_b146
  have KK6 : Keep h0 h6 [] := (Keep.refl h0 []).trans K6 (fun x hx => nomatch hx)
  obtain ⟨T7, L7, X7, e7, N7, st7⟩ := sg101_119 p0 p1 p2 (3 : Int32) (1 : Int32) (0 : Int32) (0 : Int32) jam b145 X6 hx hZ hw hby hml hown e6 N6 (Nat.le_trans Z0 KK6.1) 
  have u9 : S_0 Z h6 (.ref a_cache) := own_sta_keep f9 K6 (fun _ q => nomatch q)
  have u10 : OwnAll Z h6 a_cache "java/lang/Long" := own_all_keep f10 K6 List.not_mem_nil
  obtain ⟨T8, h8, L8, bx153, X8, e8, N8, K8, o8_0, st8⟩ := sg116_152 p0 p1 p2 (3 : Int32) (0 : Int32) (0 : Int32) (0 : Int32) jam b145 b146 kc147 .null .null a_cache X7 hx hZ hw hby hml hown e7 N7 (Nat.le_trans Z0 KK6.1) o6_1 o6_2 f6 f7 f8 u9 u10 g_b146 o6_3 o6_0
  have KK8 : Keep h0 h8 [] := KK6.trans K8 (fun x hx => (List.mem_cons.mp hx).elim (fun q => q ▸ (Or.inr sz_b146)) (fun hx => nomatch hx))
  obtain ⟨T11, L11, X11, e11, N11, st11⟩ := sg131_121 p0 p1 p2 (3 : Int32) (0 : Int32) (1 : Int32) (0 : Int32) jam b145 X8 hx hZ hw hby hml hown e8 N8 (Nat.le_trans Z0 KK8.1) 
  obtain ⟨T12, L12, X12, e12, N12, st12⟩ := sg146_122 p0 p1 p2 (3 : Int32) (0 : Int32) (1 : Int32) (0 : Int32) jam b145 X11 hx hZ hw hby hml hown e11 N11 (Nat.le_trans Z0 KK8.1) 
  have u14 : F_0 Z h8 b145 (.ref b146) := Fld.keep o6_1 K8 (own_notin o6_4 List.not_mem_nil)
  have u15 : E_1 Z h8 b145 := Exa.keep o6_0 K8
  obtain ⟨T13, L13, X13, e13, N13, st13⟩ := sg161_124 p0 p1 p2 (3 : Int32) (1 : Int32) (0 : Int32) (0 : Int32) jam (9223372036854775807 : Int64) b145 b146 kc147 (.ref bx153) .null X12 hx hZ hw hby hml hown e12 N12 (Nat.le_trans Z0 KK8.1) u14 o8_0 u15
  obtain ⟨T16, L16, X16, e16, N16, st16⟩ := sg179_155 p0 p1 p2 (0 : Int32) (0 : Int32) (0 : Int32) jam (9223372036854775807 : Int64) b145 b146 kc147 .null bx153 .null X13 hx hZ hw hby hml hown e13 N13 (Nat.le_trans Z0 KK8.1) u14 o8_0 u15
  obtain ⟨T17, L17, X17, e17, N17, st17⟩ := sg208_128 p0 p1 p2 (0 : Int32) (1 : Int32) (0 : Int32) jam (9223372036854775807 : Int64) b145 b146 kc147 .null (.ref bx153) X16 hx hZ hw hby hml hown e16 N16 (Nat.le_trans Z0 KK8.1) u14 o8_0 u15
  obtain ⟨T18, L18, X18, e18, N18, st18⟩ := sg237_129 p0 p1 p2 (0 : Int32) (1 : Int32) (0 : Int32) jam (9223372036854775807 : Int64) b145 X17 hx hZ hw hby hml hown e17 N17 (Nat.le_trans Z0 KK8.1) 
  obtain ⟨fs, hr, hrun, hended, hW, hsame⟩ := X18.leave (v := (some (.int 1))) (fun h => by rw [Bd.returns] at h; cases h)
  refine ⟨_, _, castTop (ef0_IIJ m p0 p1 p2) ?_, hrun, hended, _, _, rfl, ?_, ⟨_, rfl⟩, hW, hsame.mono (by decide) (by decide)⟩
  · show Steps p.tables e below (s₁.setTop (mkF m 0 #[.val (.int p0), .val (.int p1), .val (.long p2), .second, .unset, .unset, .unset, .unset, .unset, .unset, .unset, .unset, .unset, .unset, .unset] [])) _
    refine XS.iloadN X0.here hx rfl (hb hby at_0) rfl ?_
    refine XS.iconst X0.here hx rfl (hb hby at_1) ?_
    show Steps p.tables e below (s₁.setTop (mkF m 2 #[.val (.int p0), .val (.int p1), .val (.long p2), .second, .unset, .unset, .unset, .unset, .unset, .unset, .unset, .unset, .unset, .unset, .unset] [(.int 3), (.int p0)])) _
    refine XS.iand X0.here hx rfl (hb hby at_2) rfl ?_
    show Steps p.tables e below (s₁.setTop (mkF m 3 #[.val (.int p0), .val (.int p1), .val (.long p2), .second, .unset, .unset, .unset, .unset, .unset, .unset, .unset, .unset, .unset, .unset, .unset] [(.int (p0 &&& (3 : Int32)))])) _
    rw [f1]
    refine XS.iconst X0.here hx rfl (hb hby at_3) ?_
    show Steps p.tables e below (s₁.setTop (mkF m 4 #[.val (.int p0), .val (.int p1), .val (.long p2), .second, .unset, .unset, .unset, .unset, .unset, .unset, .unset, .unset, .unset, .unset, .unset] [(.int 1), (.int 2)])) _
    refine XS.iadd X0.here hx rfl (hb hby at_4) rfl ?_
    show Steps p.tables e below (s₁.setTop (mkF m 5 #[.val (.int p0), .val (.int p1), .val (.long p2), .second, .unset, .unset, .unset, .unset, .unset, .unset, .unset, .unset, .unset, .unset, .unset] [(.int ((2 : Int32) + (1 : Int32)))])) _
    rw [show ((2 : Int32) + (1 : Int32)) = (3 : Int32) from by decide]
    refine XS.istore X0.here hx rfl (hb hby at_5) rfl (l' := #[.val (.int p0), .val (.int p1), .val (.long p2), .second, .val (.int 3), .unset, .unset, .unset, .unset, .unset, .unset, .unset, .unset, .unset, .unset]) rfl ?_
    show Steps p.tables e below (s₁.setTop (mkF m 7 #[.val (.int p0), .val (.int p1), .val (.long p2), .second, .val (.int 3), .unset, .unset, .unset, .unset, .unset, .unset, .unset, .unset, .unset, .unset] [])) _
    refine st1 _ ?_
    show Steps p.tables e below (T1.setTop (mkF m 20 #[.val (.int p0), .val (.int p1), .val (.long p2), .second, .val (.int 3), .val (.int 0), .unset, .unset, .unset, .unset, .unset, .unset, .unset, .unset, .unset] [])) _
    refine st2 _ ?_
    show Steps p.tables e below (T2.setTop (mkF m 39 #[.val (.int p0), .val (.int p1), .val (.long p2), .second, .val (.int 3), .val (.int 0), .val (.int 1), .unset, .unset, .unset, .unset, .unset, .unset, .unset, .unset] [])) _
    refine st3 _ ?_
    show Steps p.tables e below (T3.setTop (mkF m 58 #[.val (.int p0), .val (.int p1), .val (.long p2), .second, .val (.int 3), .val (.int 0), .val (.int 1), .val (.int 0), .unset, .unset, .unset, .unset, .unset, .unset, .unset] [])) _
    refine st4 _ ?_
    show Steps p.tables e below (T4.setTop (mkF m 78 #[.val (.int p0), .val (.int p1), .val (.long p2), .second, .val (.int 3), .val (.int 0), .val (.int 1), .val (.int 0), .val (.int 0), .unset, .unset, .unset, .unset, .unset, .unset] [])) _
    refine st5 _ ?_
    show Steps p.tables e below (T5.setTop (mkF m 90 #[.val (.int p0), .val (.int p1), .val (.long p2), .second, .val (.int 3), .val (.int 0), .val (.int 1), .val (.int 0), .val (.int 0), .val (.long jam), .second, .val (.long 9223372036854775807), .second, .unset, .unset] [])) _
    refine st6 _ ?_
    show Steps p.tables e below (T6.setTop (mkF m 101 #[.val (.int p0), .val (.int p1), .val (.long p2), .second, .val (.int 3), .val (.int 0), .val (.int 1), .val (.int 0), .val (.int 0), .val (.long jam), .second, .val (.long 9223372036854775807), .second, .val (.ref b145), .unset] [])) _
    refine st7 _ ?_
    show Steps p.tables e below (T7.setTop (mkF m 116 #[.val (.int p0), .val (.int p1), .val (.long p2), .second, .val (.int 3), .val (.int 0), .val (.int 1), .val (.int 0), .val (.int 0), .val (.long jam), .second, .val (.long 9223372036854775807), .second, .val (.ref b145), .unset] [])) _
    refine st8 _ ?_
    show Steps p.tables e below (T8.setTop (mkF m 131 #[.val (.int p0), .val (.int p1), .val (.long p2), .second, .val (.int 3), .val (.int 0), .val (.int 1), .val (.int 0), .val (.int 0), .val (.long jam), .second, .val (.long 9223372036854775807), .second, .val (.ref b145), .unset] [])) _
    refine st11 _ ?_
    show Steps p.tables e below (T11.setTop (mkF m 146 #[.val (.int p0), .val (.int p1), .val (.long p2), .second, .val (.int 3), .val (.int 0), .val (.int 1), .val (.int 0), .val (.int 0), .val (.long jam), .second, .val (.long 9223372036854775807), .second, .val (.ref b145), .unset] [])) _
    refine st12 _ ?_
    show Steps p.tables e below (T12.setTop (mkF m 161 #[.val (.int p0), .val (.int p1), .val (.long p2), .second, .val (.int 3), .val (.int 0), .val (.int 1), .val (.int 0), .val (.int 0), .val (.long jam), .second, .val (.long 9223372036854775807), .second, .val (.ref b145), .unset] [])) _
    refine st13 _ ?_
    show Steps p.tables e below (T13.setTop (mkF m 179 #[.val (.int p0), .val (.int p1), .val (.long p2), .second, .val (.int 3), .val (.int 0), .val (.int 1), .val (.int 0), .val (.int 0), .val (.long jam), .second, .val (.long 9223372036854775807), .second, .val (.ref b145), .val (.int 1)] [])) _
    refine st16 _ ?_
    show Steps p.tables e below (T16.setTop (mkF m 208 #[.val (.int p0), .val (.int p1), .val (.long p2), .second, .val (.int 3), .val (.int 0), .val (.int 1), .val (.int 0), .val (.int 0), .val (.long jam), .second, .val (.long 9223372036854775807), .second, .val (.ref b145), .val (.int 1)] [])) _
    refine st17 _ ?_
    show Steps p.tables e below (T17.setTop (mkF m 237 #[.val (.int p0), .val (.int p1), .val (.long p2), .second, .val (.int 3), .val (.int 0), .val (.int 1), .val (.int 0), .val (.int 0), .val (.long jam), .second, .val (.long 9223372036854775807), .second, .val (.ref b145), .val (.int 1)] [])) _
    refine st18 _ ?_
    refine XS.iload X18.here hx rfl (hb hby at_266) rfl ?_
    show Steps p.tables e below (T18.setTop (mkF m 268 #[.val (.int p0), .val (.int p1), .val (.long p2), .second, .val (.int 3), .val (.int 0), .val (.int 1), .val (.int 0), .val (.int 0), .val (.long jam), .second, .val (.long 9223372036854775807), .second, .val (.ref b145), .val (.int 1)] [(.int 1)])) _
    exact retN X18 hx (t := .boolean) Bd.returns (by simp) (hb hby at_268) hr
  · show QT n0 _ T18.heap _
    rw [e18]
    exact ⟨rfl, N18⟩
set_option maxRecDepth 65536 in
set_option maxHeartbeats 40000000 in
theorem rm0_162 (l : Launch) (Z : State) (a0 : Array Value) (hw : ∀ d ∈ tables_1, d.before a0 Z = true) (ws : List Jvm.Cond) (p0 : Int32) (p1 : Int32) (p2 : Int64) (jam : Int64) (a_cache : Addr) (h0 : Heap) (n0 : Nat) (Z0 : n0 ≤ h0.size) (f1 : (p0 &&& (3 : Int32)) = (2 : Int32)) (f2 : (p1 &&& (1 : Int32)) = (0 : Int32)) (f3 : ¬ ((p1 &&& (2 : Int32)) = (0 : Int32))) (f4 : ¬ ((p1 &&& (4 : Int32)) = (0 : Int32))) (f5 : (p2 &&& (9223372036854775807 : Int64)) = jam) (f6 : ¬ ((lcmpW jam (0 : Int64)) < (0 : Int32))) (f7 : ¬ ((0 : Int32) < (lcmpW jam (9223372036854775807 : Int64)))) (f8 : ¬ ((lcmpW jam (-128 : Int64)) < (0 : Int32))) (f9 : S_0 Z h0 (.ref a_cache)) (f10 : OwnAll Z h0 a_cache "java/lang/Long") (f11 : E_0 Z h0 a_cache) :
    MetFree l x (head1 (Jvm.Cond.code x code maxLocals ret :: ws) room_1) (fun a U => a = #[(.int p0), (.int p1), (.long p2)] ∧ Z.Warmed39 U.vm ∧ U.heap = h0) (fun _ _ _ _ _ => True) (fun _ U o U' => ∃ v L, o = .returned v ∧ QT n0 v U'.heap L ∧ FrameEnd U o U' L room_1.cells room_1.slots) := by
  refine MetFree.of_bodySF (plainFor_of_name pn_hexwright_engine_SealedBidsHasBidPinLaw) hisR ?_
  intro p e s m args below meth c s₁ Bd hml0 hP hK
  obtain ⟨rfl, hZ, hh⟩ := hP
  have hx := Bd.exec
  have hby := Bd.bytes
  have hml : c.maxLocals = 15 := hml0
  have hown : s.vm.findClass "hexwright/engine/SealedBidsHasBidPinLaw" = some m.cls := findClass_of_methodNamed Bd.named
  have hnm := (name_of_methodNamed Bd.named Bd.method).1
  have X0 : Stand p l e room_1 s m #[(.int p0), (.int p1), (.long p2)] below meth c s₁ [] 0 0 := Stand.of_body Bd
  have e0 : s₁.heap = h0 := by rw [← hh, Bd.state]; rfl
  have N0 := Fr.nil n0
  obtain ⟨T1, L1, X1, e1, N1, st1⟩ := sg7_1 p0 p1 p2 (3 : Int32) X0 hx hZ hw hby hml hown e0 N0 Z0 f2
  obtain ⟨T2, L2, X2, e2, N2, st2⟩ := sg20_144 p0 p1 p2 (0 : Int32) X1 hx hZ hw hby hml hown e1 N1 Z0 f3
  obtain ⟨T3, L3, X3, e3, N3, st3⟩ := sg39_131 p0 p1 p2 (0 : Int32) (1 : Int32) X2 hx hZ hw hby hml hown e2 N2 Z0 f4
  obtain ⟨T4, L4, X4, e4, N4, st4⟩ := sg58_107 p0 p1 p2 (0 : Int32) (1 : Int32) (1 : Int32) X3 hx hZ hw hby hml hown e3 N3 Z0 
  obtain ⟨T5, L5, X5, e5, N5, st5⟩ := sg78_5 p0 p1 p2 (3 : Int32) (0 : Int32) (1 : Int32) (1 : Int32) (0 : Int32) jam X4 hx hZ hw hby hml hown e4 N4 Z0 f5
  obtain ⟨T6, h6, L6, b157, b158, kc159, X6, e6, N6, K6, le_b157, le_b158, o6_0, o6_1, o6_2, o6_3, o6_4, st6⟩ := sg90_115 p0 p1 p2 (0 : Int32) (1 : Int32) (1 : Int32) (0 : Int32) jam (9223372036854775807 : Int64) X5 hx hZ hw hby hml hown e5 N5 Z0 
  have sz_b157 : h0.size ≤ b157 := Nat.le_trans (Nat.le_refl _) le_b157
  have g_b157 : n0 ≤ b157 := Nat.le_trans Z0 sz_b157
  have sz_b158 : h0.size ≤ b158 := Nat.le_trans (Nat.le_refl _) le_b158
  have g_b158 : n0 ≤ b158 := Nat.le_trans Z0 sz_b158
  have KK6 : Keep h0 h6 [] := (Keep.refl h0 []).trans K6 (fun x hx => nomatch hx)
  obtain ⟨T7, L7, X7, e7, N7, st7⟩ := sg101_119 p0 p1 p2 (3 : Int32) (1 : Int32) (1 : Int32) (0 : Int32) jam b157 X6 hx hZ hw hby hml hown e6 N6 (Nat.le_trans Z0 KK6.1) 
  have u9 : S_0 Z h6 (.ref a_cache) := own_sta_keep f9 K6 (fun _ q => nomatch q)
  have u10 : OwnAll Z h6 a_cache "java/lang/Long" := own_all_keep f10 K6 List.not_mem_nil
  obtain ⟨T8, h8, L8, bx160, X8, e8, N8, K8, o8_0, st8⟩ := sg116_152 p0 p1 p2 (3 : Int32) (0 : Int32) (1 : Int32) (0 : Int32) jam b157 b158 kc159 .null .null a_cache X7 hx hZ hw hby hml hown e7 N7 (Nat.le_trans Z0 KK6.1) o6_1 o6_2 f6 f7 f8 u9 u10 g_b158 o6_3 o6_0
  have KK8 : Keep h0 h8 [] := KK6.trans K8 (fun x hx => (List.mem_cons.mp hx).elim (fun q => q ▸ (Or.inr sz_b158)) (fun hx => nomatch hx))
  have u12 : F_0 Z h8 b157 (.ref b158) := Fld.keep o6_1 K8 (own_notin o6_4 List.not_mem_nil)
  have u13 : S_0 Z h8 (.ref a_cache) := own_sta_keep u9 K8 (own_ns (Arv.nostat o6_2) (fun _ q => nomatch q))
  have ne14 : a_cache ≠ b158 := Nat.ne_of_lt (Nat.lt_of_lt_of_le (Exa.lt f11) le_b158)
  have u15 : OwnAll Z h8 a_cache "java/lang/Long" := own_all_keep u10 K8 (own_notin ne14 List.not_mem_nil)
  have u16 : E_1 Z h8 b157 := Exa.keep o6_0 K8
  obtain ⟨T11, h11, L11, bx161, X11, e11, N11, K11, o11_0, st11⟩ := sg131_139 p0 p1 p2 (3 : Int32) (0 : Int32) (1 : Int32) (0 : Int32) jam b157 b158 kc159 .null (.ref bx160) a_cache X8 hx hZ hw hby hml hown e8 N8 (Nat.le_trans Z0 KK8.1) u12 o8_0 f6 f7 f8 u13 u15 g_b158 o6_3 u16
  have KK11 : Keep h0 h11 [] := KK8.trans K11 (fun x hx => (List.mem_cons.mp hx).elim (fun q => q ▸ (Or.inr sz_b158)) (fun hx => nomatch hx))
  obtain ⟨T17, L17, X17, e17, N17, st17⟩ := sg146_122 p0 p1 p2 (3 : Int32) (0 : Int32) (1 : Int32) (1 : Int32) jam b157 X11 hx hZ hw hby hml hown e11 N11 (Nat.le_trans Z0 KK11.1) 
  have u19 : F_0 Z h11 b157 (.ref b158) := Fld.keep u12 K11 (own_notin o6_4 List.not_mem_nil)
  have u20 : E_1 Z h11 b157 := Exa.keep u16 K11
  obtain ⟨T18, L18, X18, e18, N18, st18⟩ := sg161_124 p0 p1 p2 (3 : Int32) (1 : Int32) (1 : Int32) (0 : Int32) jam (9223372036854775807 : Int64) b157 b158 kc159 (.ref bx160) (.ref bx161) X17 hx hZ hw hby hml hown e17 N17 (Nat.le_trans Z0 KK11.1) u19 o11_0 u20
  obtain ⟨T21, L21, X21, e21, N21, st21⟩ := sg179_155 p0 p1 p2 (0 : Int32) (1 : Int32) (0 : Int32) jam (9223372036854775807 : Int64) b157 b158 kc159 .null bx160 (.ref bx161) X18 hx hZ hw hby hml hown e18 N18 (Nat.le_trans Z0 KK11.1) u19 o11_0 u20
  obtain ⟨T22, L22, X22, e22, N22, st22⟩ := sg208_142 p0 p1 p2 (0 : Int32) (1 : Int32) (0 : Int32) jam (9223372036854775807 : Int64) b157 b158 kc159 .null (.ref bx160) bx161 X21 hx hZ hw hby hml hown e21 N21 (Nat.le_trans Z0 KK11.1) u19 o11_0 u20
  obtain ⟨T23, L23, X23, e23, N23, st23⟩ := sg237_129 p0 p1 p2 (0 : Int32) (1 : Int32) (1 : Int32) jam (9223372036854775807 : Int64) b157 X22 hx hZ hw hby hml hown e22 N22 (Nat.le_trans Z0 KK11.1) 
  obtain ⟨fs, hr, hrun, hended, hW, hsame⟩ := X23.leave (v := (some (.int 1))) (fun h => by rw [Bd.returns] at h; cases h)
  refine ⟨_, _, castTop (ef0_IIJ m p0 p1 p2) ?_, hrun, hended, _, _, rfl, ?_, ⟨_, rfl⟩, hW, hsame.mono (by decide) (by decide)⟩
  · show Steps p.tables e below (s₁.setTop (mkF m 0 #[.val (.int p0), .val (.int p1), .val (.long p2), .second, .unset, .unset, .unset, .unset, .unset, .unset, .unset, .unset, .unset, .unset, .unset] [])) _
    refine XS.iloadN X0.here hx rfl (hb hby at_0) rfl ?_
    refine XS.iconst X0.here hx rfl (hb hby at_1) ?_
    show Steps p.tables e below (s₁.setTop (mkF m 2 #[.val (.int p0), .val (.int p1), .val (.long p2), .second, .unset, .unset, .unset, .unset, .unset, .unset, .unset, .unset, .unset, .unset, .unset] [(.int 3), (.int p0)])) _
    refine XS.iand X0.here hx rfl (hb hby at_2) rfl ?_
    show Steps p.tables e below (s₁.setTop (mkF m 3 #[.val (.int p0), .val (.int p1), .val (.long p2), .second, .unset, .unset, .unset, .unset, .unset, .unset, .unset, .unset, .unset, .unset, .unset] [(.int (p0 &&& (3 : Int32)))])) _
    rw [f1]
    refine XS.iconst X0.here hx rfl (hb hby at_3) ?_
    show Steps p.tables e below (s₁.setTop (mkF m 4 #[.val (.int p0), .val (.int p1), .val (.long p2), .second, .unset, .unset, .unset, .unset, .unset, .unset, .unset, .unset, .unset, .unset, .unset] [(.int 1), (.int 2)])) _
    refine XS.iadd X0.here hx rfl (hb hby at_4) rfl ?_
    show Steps p.tables e below (s₁.setTop (mkF m 5 #[.val (.int p0), .val (.int p1), .val (.long p2), .second, .unset, .unset, .unset, .unset, .unset, .unset, .unset, .unset, .unset, .unset, .unset] [(.int ((2 : Int32) + (1 : Int32)))])) _
    rw [show ((2 : Int32) + (1 : Int32)) = (3 : Int32) from by decide]
    refine XS.istore X0.here hx rfl (hb hby at_5) rfl (l' := #[.val (.int p0), .val (.int p1), .val (.long p2), .second, .val (.int 3), .unset, .unset, .unset, .unset, .unset, .unset, .unset, .unset, .unset, .unset]) rfl ?_
    show Steps p.tables e below (s₁.setTop (mkF m 7 #[.val (.int p0), .val (.int p1), .val (.long p2), .second, .val (.int 3), .unset, .unset, .unset, .unset, .unset, .unset, .unset, .unset, .unset, .unset] [])) _
    refine st1 _ ?_
    show Steps p.tables e below (T1.setTop (mkF m 20 #[.val (.int p0), .val (.int p1), .val (.long p2), .second, .val (.int 3), .val (.int 0), .unset, .unset, .unset, .unset, .unset, .unset, .unset, .unset, .unset] [])) _
    refine st2 _ ?_
    show Steps p.tables e below (T2.setTop (mkF m 39 #[.val (.int p0), .val (.int p1), .val (.long p2), .second, .val (.int 3), .val (.int 0), .val (.int 1), .unset, .unset, .unset, .unset, .unset, .unset, .unset, .unset] [])) _
    refine st3 _ ?_
    show Steps p.tables e below (T3.setTop (mkF m 58 #[.val (.int p0), .val (.int p1), .val (.long p2), .second, .val (.int 3), .val (.int 0), .val (.int 1), .val (.int 1), .unset, .unset, .unset, .unset, .unset, .unset, .unset] [])) _
    refine st4 _ ?_
    show Steps p.tables e below (T4.setTop (mkF m 78 #[.val (.int p0), .val (.int p1), .val (.long p2), .second, .val (.int 3), .val (.int 0), .val (.int 1), .val (.int 1), .val (.int 0), .unset, .unset, .unset, .unset, .unset, .unset] [])) _
    refine st5 _ ?_
    show Steps p.tables e below (T5.setTop (mkF m 90 #[.val (.int p0), .val (.int p1), .val (.long p2), .second, .val (.int 3), .val (.int 0), .val (.int 1), .val (.int 1), .val (.int 0), .val (.long jam), .second, .val (.long 9223372036854775807), .second, .unset, .unset] [])) _
    refine st6 _ ?_
    show Steps p.tables e below (T6.setTop (mkF m 101 #[.val (.int p0), .val (.int p1), .val (.long p2), .second, .val (.int 3), .val (.int 0), .val (.int 1), .val (.int 1), .val (.int 0), .val (.long jam), .second, .val (.long 9223372036854775807), .second, .val (.ref b157), .unset] [])) _
    refine st7 _ ?_
    show Steps p.tables e below (T7.setTop (mkF m 116 #[.val (.int p0), .val (.int p1), .val (.long p2), .second, .val (.int 3), .val (.int 0), .val (.int 1), .val (.int 1), .val (.int 0), .val (.long jam), .second, .val (.long 9223372036854775807), .second, .val (.ref b157), .unset] [])) _
    refine st8 _ ?_
    show Steps p.tables e below (T8.setTop (mkF m 131 #[.val (.int p0), .val (.int p1), .val (.long p2), .second, .val (.int 3), .val (.int 0), .val (.int 1), .val (.int 1), .val (.int 0), .val (.long jam), .second, .val (.long 9223372036854775807), .second, .val (.ref b157), .unset] [])) _
    refine st11 _ ?_
    show Steps p.tables e below (T11.setTop (mkF m 146 #[.val (.int p0), .val (.int p1), .val (.long p2), .second, .val (.int 3), .val (.int 0), .val (.int 1), .val (.int 1), .val (.int 0), .val (.long jam), .second, .val (.long 9223372036854775807), .second, .val (.ref b157), .unset] [])) _
    refine st17 _ ?_
    show Steps p.tables e below (T17.setTop (mkF m 161 #[.val (.int p0), .val (.int p1), .val (.long p2), .second, .val (.int 3), .val (.int 0), .val (.int 1), .val (.int 1), .val (.int 0), .val (.long jam), .second, .val (.long 9223372036854775807), .second, .val (.ref b157), .unset] [])) _
    refine st18 _ ?_
    show Steps p.tables e below (T18.setTop (mkF m 179 #[.val (.int p0), .val (.int p1), .val (.long p2), .second, .val (.int 3), .val (.int 0), .val (.int 1), .val (.int 1), .val (.int 0), .val (.long jam), .second, .val (.long 9223372036854775807), .second, .val (.ref b157), .val (.int 1)] [])) _
    refine st21 _ ?_
    show Steps p.tables e below (T21.setTop (mkF m 208 #[.val (.int p0), .val (.int p1), .val (.long p2), .second, .val (.int 3), .val (.int 0), .val (.int 1), .val (.int 1), .val (.int 0), .val (.long jam), .second, .val (.long 9223372036854775807), .second, .val (.ref b157), .val (.int 1)] [])) _
    refine st22 _ ?_
    show Steps p.tables e below (T22.setTop (mkF m 237 #[.val (.int p0), .val (.int p1), .val (.long p2), .second, .val (.int 3), .val (.int 0), .val (.int 1), .val (.int 1), .val (.int 0), .val (.long jam), .second, .val (.long 9223372036854775807), .second, .val (.ref b157), .val (.int 1)] [])) _
    refine st23 _ ?_
    refine XS.iload X23.here hx rfl (hb hby at_266) rfl ?_
    show Steps p.tables e below (T23.setTop (mkF m 268 #[.val (.int p0), .val (.int p1), .val (.long p2), .second, .val (.int 3), .val (.int 0), .val (.int 1), .val (.int 1), .val (.int 0), .val (.long jam), .second, .val (.long 9223372036854775807), .second, .val (.ref b157), .val (.int 1)] [(.int 1)])) _
    exact retN X23 hx (t := .boolean) Bd.returns (by simp) (hb hby at_268) hr
  · show QT n0 _ T23.heap _
    rw [e23]
    exact ⟨rfl, N23⟩
def Q3_168 (Z : State) (c1_a : Addr) (c2_k : ClassId) (gx1 : Value) (gx2 : Value) (h0 : Heap) (n0 : Nat) (v : Option Value) (h : Heap) (L : List Loc) : Prop := ∃ (bx166 : Addr), v = none ∧ Fr n0 L ∧ Keep h0 h [c1_a] ∧ Arv Z h c1_a c2_k (.object "java/lang/Long") (3 : Int32) [(.ref bx166), gx1, gx2] .null
set_option maxRecDepth 65536 in
set_option maxHeartbeats 40000000 in
theorem rm3_167 (l : Launch) (Z : State) (a0 : Array Value) (hw : ∀ d ∈ tables_1, d.before a0 Z = true) (ws : List Jvm.Cond) (c0_a : Addr) (jam : Int64) (c1_a : Addr) (c2_k : ClassId) (gx1 : Value) (gx2 : Value) (a_cache : Addr) (h0 : Heap) (n0 : Nat) (Z0 : n0 ≤ h0.size) (f1 : F_0 Z h0 c0_a (.ref c1_a)) (f2 : Arv Z h0 c1_a c2_k (.object "java/lang/Long") (3 : Int32) [.null, gx1, gx2] .null) (f3 : ¬ ((lcmpW jam (0 : Int64)) < (0 : Int32))) (f4 : ¬ ((0 : Int32) < (lcmpW jam (9223372036854775807 : Int64)))) (f5 : ¬ ((lcmpW jam (-128 : Int64)) < (0 : Int32))) (f6 : S_0 Z h0 (.ref a_cache)) (f7 : OwnAll Z h0 a_cache "java/lang/Long") (f8 : n0 ≤ c1_a) (f9 : Ovr Z c2_k "java/lang/Long") :
    MetFree l M_5 (head1 (Jvm.Cond.code M_5 prog_14_method_2_code 6 none :: ws) R_4_1_1_55) (fun a U => a = #[(.ref c0_a), (.int 1), (.long jam), (.long 9223372036854775807)] ∧ Z.Warmed39 U.vm ∧ U.heap = h0) (fun _ _ _ _ _ => True) (fun _ U o U' => ∃ v L, o = .returned v ∧ Q3_168 Z c1_a c2_k gx1 gx2 h0 n0 v U'.heap L ∧ FrameEnd U o U' L R_4_1_1_55.cells R_4_1_1_55.slots) := by
  refine MetFree.of_bodySF (plainFor_of_name pn_hexwright_engine_SealedBids) hisR ?_
  intro p e s m args below meth c s₁ Bd hml0 hP hK
  obtain ⟨rfl, hZ, hh⟩ := hP
  have hx := Bd.exec
  have hby := Bd.bytes
  have hml : c.maxLocals = 6 := hml0
  have hown : s.vm.findClass "hexwright/engine/SealedBids" = some m.cls := findClass_of_methodNamed Bd.named
  have hnm := (name_of_methodNamed Bd.named Bd.method).1
  have X0 : Stand p l e R_4_1_1_55 s m #[(.ref c0_a), (.int 1), (.long jam), (.long 9223372036854775807)] below meth c s₁ [] 0 0 := Stand.of_body Bd
  have e0 : s₁.heap = h0 := by rw [← hh, Bd.state]; rfl
  have N0 := Fr.nil n0
  obtain ⟨T1, X1, e1, st1⟩ := getF X0 hx hZ hown (host := "") (Or.inl (tw_12 hw)) Via.refl e0 f1 (g := (mkF m 1 #[.val (.ref c0_a), .val (.int 1), .val (.long jam), .second, .val (.long 9223372036854775807), .second] [(.ref c0_a)])) rfl rfl (hb hby d3_1)
  have va2 := f2
  obtain ⟨cl2, Ar2, -, S2, -, H2, -⟩ := va2
  have hin2 : ¬ ((0 : Int32) < 0 ∨ cl2.slots.size ≤ ((0 : Int32)).toNatClampNeg) := inb_of S2 ⟨by decide, by decide⟩
  have hat2 : cl2.slots[((0 : Int32)).toNatClampNeg]? = some .null := H2 _ (Nat.lt_of_not_le fun y => hin2 (Or.inr y))
  obtain ⟨T3, X3, e3, st3⟩ := getF X1 hx hZ hown (host := "") (Or.inl (tw_12 hw)) Via.refl e1 f1 (g := (mkF m 56 #[.val (.ref c0_a), .val (.int 1), .val (.long jam), .second, .val (.long 9223372036854775807), .second] [(.ref c0_a)])) rfl rfl (hb hby d3_56)
  -- pc 63: java/lang/Long.valueOf
  obtain ⟨_, _, ⟨T4, L4, k4, n4⟩, -, X4, ⟨Lc4, hQ4, l4, y4, z4⟩, st4⟩ := Jvm.LawKit.callS X3 hx (y := M_4) hown (mvT hZ (tw_19 hw)) (mvT hZ (tw_20 hw)) (mvT hZ (tw_21 hw)) (mvT hZ (tw_22 hw)) (by decide) (backOf (W := 2) (rmB_38 l Z a0 hw [] jam a_cache h0 n0 Z0 f5 f6 f7) hZ (tw_22 hw) (tw_21 hw) (by decide) (by decide)) (g := (mkF m 63 #[.val (.ref c0_a), .val (.int 1), .val (.long jam), .second, .val (.long 9223372036854775807), .second] [(.long jam), (.int 0), (.ref c1_a)])) rfl (by rw [hml]; rfl) (argsL := [(.long jam)]) (rest := [(.int 0), (.ref c1_a)]) (lenOf pd_4 rfl) rfl (by show 2 * 0 + _ ≤ _; exact Nat.le_of_eq rfl) (hb hby d3_63) (fun _ _ => ⟨rfl, e3, (by decide : 0 + 1 ≤ _), (by decide : 0 + 1 ≤ _)⟩)
  dsimp only [Pt.U, Pt.locs, Pt.cells, Pt.slots] at X4 l4 y4 z4 st4 hQ4
  subst l4 y4 z4
  obtain ⟨bx166, rfl, Nq4, K4, o4_0⟩ := hQ4
  have N4 := Fr.app N0 Nq4
  have KK4 : Keep h0 T4.heap [c1_a] := (Keep.refl h0 [c1_a]).trans K4 (fun x hx => nomatch hx)
  have u5 : Arv Z T4.heap c1_a c2_k (.object "java/lang/Long") (3 : Int32) [.null, gx1, gx2] .null := Arv.keep f2 K4 List.not_mem_nil
  have va6 := u5
  obtain ⟨cl6, Ar6, q6, S6, N6_, H6, G6⟩ := va6
  have hin6 : ¬ ((0 : Int32) < 0 ∨ cl6.slots.size ≤ ((0 : Int32)).toNatClampNeg) := inb_of S6 ⟨by decide, by decide⟩
  obtain ⟨T7, h7, X7, e7, W7, st7⟩ := stR X4 hx hZ rfl Ar6 (j := (0 : Int32)) hin6 rfl (Sto.ofV Ar6 q6 f9 (Ins.self o4_0)) (g := (mkF m 66 #[.val (.ref c0_a), .val (.int 1), .val (.long jam), .second, .val (.long 9223372036854775807), .second] [(.ref bx166), (.int 0), (.ref c1_a)])) rfl rfl (hb hby d3_66)
  have Vw7 : Arv Z h7 c1_a c2_k (.object "java/lang/Long") (3 : Int32) [(.ref bx166), gx1, gx2] .null := Arv.set Ar6 q6 S6 N6_ H6 G6 rfl W7 0 rfl (Nat.le_of_ble_eq_true rfl)
  have KK7 : Keep h0 h7 [c1_a] := KK4.wr W7 (Or.inl (List.mem_of_getElem? (i := 0) rfl))
  have N7 := Fr.snoc X7 N4 f8
  obtain ⟨fs, hr, hrun, hended, hW, hsame⟩ := X7.leave (v := none) (fun _ => rfl)
  refine ⟨_, _, castTop (ef3_RIJJ m c0_a (1 : Int32) jam (9223372036854775807 : Int64)) ?_, hrun, hended, _, _, rfl, ?_, ⟨_, rfl⟩, hW, hsame.mono (by decide) (by decide)⟩
  · show Steps p.tables e below (s₁.setTop (mkF m 0 #[.val (.ref c0_a), .val (.int 1), .val (.long jam), .second, .val (.long 9223372036854775807), .second] [])) _
    refine XS.aloadN X0.here hx rfl (hb hby d3_0) rfl rfl ?_
    show Steps p.tables e below (s₁.setTop (mkF m 1 #[.val (.ref c0_a), .val (.int 1), .val (.long jam), .second, .val (.long 9223372036854775807), .second] [(.ref c0_a)])) _
    refine st1 _ ?_
    refine XS.iloadN X1.here hx rfl (hb hby d3_4) rfl ?_
    refine XS.iconst X1.here hx rfl (hb hby d3_5) ?_
    show Steps p.tables e below (T1.setTop (mkF m 6 #[.val (.ref c0_a), .val (.int 1), .val (.long jam), .second, .val (.long 9223372036854775807), .second] [(.int 1), (.int 1), (.ref c1_a)])) _
    refine XS.isub X1.here hx rfl (hb hby d3_6) rfl ?_
    show Steps p.tables e below (T1.setTop (mkF m 7 #[.val (.ref c0_a), .val (.int 1), .val (.long jam), .second, .val (.long 9223372036854775807), .second] [(.int ((1 : Int32) - (1 : Int32))), (.ref c1_a)])) _
    rw [show ((1 : Int32) - (1 : Int32)) = (0 : Int32) from by decide]
    show Steps p.tables e below (T1.setTop (mkF m 7 #[.val (.ref c0_a), .val (.int 1), .val (.long jam), .second, .val (.long 9223372036854775807), .second] [(.int 0), (.ref c1_a)])) _
    refine X1.aaload hx (j := (0 : Int32)) (v := .null) (by rw [e1]; exact Ar2.1) (State.isArrayOf_alike hZ.alike Ar2.2.1) rfl Ar2.2.2 hin2 hat2 (g := (mkF m 7 #[.val (.ref c0_a), .val (.int 1), .val (.long jam), .second, .val (.long 9223372036854775807), .second] [(.int 0), (.ref c1_a)])) rfl rfl (hb hby d3_7) _ ?_
    refine XS.ifnullYes X1.here hx rfl (pc0 := 8) (pc' := 25) rfl (hb hby d3_8) rfl (by decide) (by decide) ?_
    refine XS.lloadN X1.here hx rfl (hb hby d3_25) rfl ?_
    refine XS.lconst X1.here hx rfl (hb hby d3_26) ?_
    show Steps p.tables e below (T1.setTop (mkF m 27 #[.val (.ref c0_a), .val (.int 1), .val (.long jam), .second, .val (.long 9223372036854775807), .second] [(.long 0), (.long jam)])) _
    refine XS.lcmp X1.here hx rfl (hb hby d3_27) rfl ?_
    refine XS.ifNo X1.here hx rfl (hb hby d3_28) rfl ((if0 _ _).trans (flt (f3 : ¬ ((lcmpW jam (0 : Int64)) < (0 : Int32)))).1) ?_
    refine XS.lloadN X1.here hx rfl (hb hby d3_31) rfl ?_
    refine XS.lload X1.here hx rfl (hb hby d3_32) rfl ?_
    show Steps p.tables e below (T1.setTop (mkF m 34 #[.val (.ref c0_a), .val (.int 1), .val (.long jam), .second, .val (.long 9223372036854775807), .second] [(.long 9223372036854775807), (.long jam)])) _
    refine XS.lcmp X1.here hx rfl (hb hby d3_34) rfl ?_
    refine XS.ifYes X1.here hx rfl (pc0 := 35) (pc' := 55) rfl (hb hby d3_35) rfl ((if0 _ _).trans (flt (f4 : ¬ ((0 : Int32) < (lcmpW jam (9223372036854775807 : Int64))))).2.2.2) (by decide) (by decide) ?_
    refine XS.aloadN X1.here hx rfl (hb hby d3_55) rfl rfl ?_
    show Steps p.tables e below (T1.setTop (mkF m 56 #[.val (.ref c0_a), .val (.int 1), .val (.long jam), .second, .val (.long 9223372036854775807), .second] [(.ref c0_a)])) _
    refine st3 _ ?_
    refine XS.iloadN X3.here hx rfl (hb hby d3_59) rfl ?_
    refine XS.iconst X3.here hx rfl (hb hby d3_60) ?_
    show Steps p.tables e below (T3.setTop (mkF m 61 #[.val (.ref c0_a), .val (.int 1), .val (.long jam), .second, .val (.long 9223372036854775807), .second] [(.int 1), (.int 1), (.ref c1_a)])) _
    refine XS.isub X3.here hx rfl (hb hby d3_61) rfl ?_
    show Steps p.tables e below (T3.setTop (mkF m 62 #[.val (.ref c0_a), .val (.int 1), .val (.long jam), .second, .val (.long 9223372036854775807), .second] [(.int ((1 : Int32) - (1 : Int32))), (.ref c1_a)])) _
    rw [show ((1 : Int32) - (1 : Int32)) = (0 : Int32) from by decide]
    refine XS.lloadN X3.here hx rfl (hb hby d3_62) rfl ?_
    show Steps p.tables e below (T3.setTop (mkF m 63 #[.val (.ref c0_a), .val (.int 1), .val (.long jam), .second, .val (.long 9223372036854775807), .second] [(.long jam), (.int 0), (.ref c1_a)])) _
    refine st4 _ ?_
    show Steps p.tables e below (T4.setTop (mkF m 66 #[.val (.ref c0_a), .val (.int 1), .val (.long jam), .second, .val (.long 9223372036854775807), .second] [(.ref bx166), (.int 0), (.ref c1_a)])) _
    refine st7 _ ?_
    show Steps p.tables e below (T7.setTop (mkF m 67 #[.val (.ref c0_a), .val (.int 1), .val (.long jam), .second, .val (.long 9223372036854775807), .second] [])) _
    exact X7.returnOut hx Bd.returns (hb hby d3_67) hr
  · show Q3_168 Z c1_a c2_k gx1 gx2 h0 n0 _ T7.heap _
    rw [e7]
    exact ⟨bx166, rfl, N7, KK7, Vw7⟩
set_option maxRecDepth 65536 in
set_option maxHeartbeats 40000000 in
theorem sg101_170 {p : Program} {l : Launch} {e : Env} {s : State} {m : MethodId} {below : List Frame} {meth : Method} {c : Code} {T0 : State} {locs : List Loc} {Z : State} {a0 : Array Value} (p0 : Int32) (p1 : Int32) (p2 : Int64) (gq4 : Int32) (gq6 : Int32) (gq7 : Int32) (gq8 : Int32) (jam : Int64) (c0_a : Addr) (c1_a : Addr) (c2_k : ClassId) (gx1 : Value) (gx2 : Value) (a_cache : Addr) {h0 : Heap} {n0 : Nat} (X0 : Stand p l e room_1 s m #[(.int p0), (.int p1), (.long p2)] below meth c T0 locs 2 4) (hx : p.tables.exec = Jvm.exec) (hZ : Z.Warmed39 s.vm) (hw : ∀ d ∈ tables_1, d.before a0 Z = true) (hby : c.code = code) (hml : c.maxLocals = 15) (hown : s.vm.findClass "hexwright/engine/SealedBidsHasBidPinLaw" = some m.cls) (e0 : T0.heap = h0) (N0 : Fr n0 locs) (Z0 : n0 ≤ h0.size) (f1 : F_0 Z h0 c0_a (.ref c1_a)) (f2 : Arv Z h0 c1_a c2_k (.object "java/lang/Long") (3 : Int32) [.null, gx1, gx2] .null) (f3 : ¬ ((lcmpW jam (0 : Int64)) < (0 : Int32))) (f4 : ¬ ((0 : Int32) < (lcmpW jam (9223372036854775807 : Int64)))) (f5 : ¬ ((lcmpW jam (-128 : Int64)) < (0 : Int32))) (f6 : S_0 Z h0 (.ref a_cache)) (f7 : OwnAll Z h0 a_cache "java/lang/Long") (f8 : n0 ≤ c1_a) (f9 : Ovr Z c2_k "java/lang/Long") (f10 : E_1 Z h0 c0_a) :
    ∃ (T : State) (h : Heap) (L : List Loc) (bx169 : Addr), Stand p l e room_1 s m #[(.int p0), (.int p1), (.long p2)] below meth c T L 3 5 ∧ T.heap = h ∧ Fr n0 L ∧ Keep h0 h [c1_a] ∧ Arv Z h c1_a c2_k (.object "java/lang/Long") (3 : Int32) [(.ref bx169), gx1, gx2] .null ∧ (∀ target, Steps p.tables e below (T.setTop (mkF m 116 #[.val (.int p0), .val (.int p1), .val (.long p2), .second, .val (.int gq4), .val (.int 1), .val (.int gq6), .val (.int gq7), .val (.int gq8), .val (.long jam), .second, .val (.long 9223372036854775807), .second, .val (.ref c0_a), .unset] [])) target → Steps p.tables e below (T0.setTop (mkF m 101 #[.val (.int p0), .val (.int p1), .val (.long p2), .second, .val (.int gq4), .val (.int 1), .val (.int gq6), .val (.int gq7), .val (.int gq8), .val (.long jam), .second, .val (.long 9223372036854775807), .second, .val (.ref c0_a), .unset] [])) target) := by
  -- pc 113: hexwright/engine/SealedBids.bid
  obtain ⟨cq1, kq1, q1a, q1b, q1c⟩ := isOf hZ e0 f10
  obtain ⟨_, _, ⟨T1, L1, k1, n1⟩, -, X1, ⟨Lc1, hQ1, l1, y1, z1⟩, st1⟩ := X0.virtualBack hx (y := M_5) (z := M_5) hown (mvT hZ (tw_14 hw)) (mvT hZ (tw_15 hw)) (notFace_of_selects (args := #[]) (mvT hZ (tw_17 hw))) (mvT hZ (tw_17 hw)) (mvT hZ (tw_16 hw)) (by decide) (backOf (W := 0) (rm3_167 l Z a0 hw [] c0_a jam c1_a c2_k gx1 gx2 a_cache h0 n0 Z0 f1 f2 f3 f4 f5 f6 f7 f8 f9) hZ (tw_18 hw) (tw_3 hw) (by decide) (by decide)) q1a q1c (g := (mkF m 113 #[.val (.int p0), .val (.int p1), .val (.long p2), .second, .val (.int gq4), .val (.int 1), .val (.int gq6), .val (.int gq7), .val (.int gq8), .val (.long jam), .second, .val (.long 9223372036854775807), .second, .val (.ref c0_a), .unset] [(.long 9223372036854775807), (.long jam), (.int 1), (.ref c0_a)])) rfl (by rw [hml]; rfl) (Steps.refl _) (argsL := [(.int 1), (.long jam), (.long 9223372036854775807)]) (rest := []) (lenOf pd_5 rfl) rfl (by show 2 * 0 + _ ≤ _; exact Nat.le_of_eq rfl) (hb hby at_113) (fun _ _ => ⟨rfl, e0, (by decide : 2 + 1 ≤ _), (by decide : 4 + 1 ≤ _)⟩)
  dsimp only [Pt.U, Pt.locs, Pt.cells, Pt.slots] at X1 l1 y1 z1 st1 hQ1
  subst l1 y1 z1
  obtain ⟨bx169, rfl, Nq1, K1, o1_0⟩ := hQ1
  have N1 := Fr.app N0 Nq1
  have KK1 : Keep h0 T1.heap [c1_a] := (Keep.refl h0 [c1_a]).trans K1 (fun x hx => (List.mem_cons.mp hx).elim (fun q => q ▸ (Or.inl (List.mem_of_getElem? (i := 0) rfl))) (fun hx => nomatch hx))
  refine ⟨T1, _, _, bx169, (X1.more (by decide) (by decide)), rfl, N1, KK1, o1_0, fun target kt => ?_⟩
  show Steps p.tables e below (T0.setTop (mkF m 101 #[.val (.int p0), .val (.int p1), .val (.long p2), .second, .val (.int gq4), .val (.int 1), .val (.int gq6), .val (.int gq7), .val (.int gq8), .val (.long jam), .second, .val (.long 9223372036854775807), .second, .val (.ref c0_a), .unset] [])) _
  refine XS.iload X0.here hx rfl (hb hby at_101) rfl ?_
  refine XS.ifNo X0.here hx rfl (hb hby at_103) rfl (by decide) ?_
  refine XS.aload X0.here hx rfl (hb hby at_106) rfl rfl ?_
  refine XS.iconst X0.here hx rfl (hb hby at_108) ?_
  refine XS.lload X0.here hx rfl (hb hby at_109) rfl ?_
  show Steps p.tables e below (T0.setTop (mkF m 111 #[.val (.int p0), .val (.int p1), .val (.long p2), .second, .val (.int gq4), .val (.int 1), .val (.int gq6), .val (.int gq7), .val (.int gq8), .val (.long jam), .second, .val (.long 9223372036854775807), .second, .val (.ref c0_a), .unset] [(.long jam), (.int 1), (.ref c0_a)])) _
  refine XS.lload X0.here hx rfl (hb hby at_111) rfl ?_
  show Steps p.tables e below (T0.setTop (mkF m 113 #[.val (.int p0), .val (.int p1), .val (.long p2), .second, .val (.int gq4), .val (.int 1), .val (.int gq6), .val (.int gq7), .val (.int gq8), .val (.long jam), .second, .val (.long 9223372036854775807), .second, .val (.ref c0_a), .unset] [(.long 9223372036854775807), (.long jam), (.int 1), (.ref c0_a)])) _
  refine st1.trans ?_
  show Steps p.tables e below (T1.setTop (mkF m 116 #[.val (.int p0), .val (.int p1), .val (.long p2), .second, .val (.int gq4), .val (.int 1), .val (.int gq6), .val (.int gq7), .val (.int gq8), .val (.long jam), .second, .val (.long 9223372036854775807), .second, .val (.ref c0_a), .unset] [])) _
  exact kt
set_option maxRecDepth 65536 in
set_option maxHeartbeats 40000000 in
theorem rm5_172 (l : Launch) (Z : State) (a0 : Array Value) (hw : ∀ d ∈ tables_1, d.before a0 Z = true) (ws : List Jvm.Cond) (c0_a : Addr) (c1_a : Addr) (c2_k : ClassId) (c3_a : Addr) (gx1 : Value) (gx2 : Value) (h0 : Heap) (n0 : Nat) (Z0 : n0 ≤ h0.size) (f1 : F_0 Z h0 c0_a (.ref c1_a)) (f2 : Arv Z h0 c1_a c2_k (.object "java/lang/Long") (3 : Int32) [(.ref c3_a), gx1, gx2] .null) :
    MetFree l M_1 (head1 (Jvm.Cond.code M_1 prog_14_method_4_code 2 (some .boolean) :: ws) R_0_0_0_0) (fun a U => a = #[(.ref c0_a), (.int 1)] ∧ Z.Warmed39 U.vm ∧ U.heap = h0) (fun _ _ _ _ _ => True) (fun _ U o U' => ∃ v L, o = .returned v ∧ QP (some (.int 1)) h0 n0 v U'.heap L ∧ FrameEnd U o U' L R_0_0_0_0.cells R_0_0_0_0.slots) := by
  refine MetFree.of_bodySF (plainFor_of_name pn_hexwright_engine_SealedBids) hisR ?_
  intro p e s m args below meth c s₁ Bd hml0 hP hK
  obtain ⟨rfl, hZ, hh⟩ := hP
  have hx := Bd.exec
  have hby := Bd.bytes
  have hml : c.maxLocals = 2 := hml0
  have hown : s.vm.findClass "hexwright/engine/SealedBids" = some m.cls := findClass_of_methodNamed Bd.named
  have hnm := (name_of_methodNamed Bd.named Bd.method).1
  have X0 : Stand p l e R_0_0_0_0 s m #[(.ref c0_a), (.int 1)] below meth c s₁ [] 0 0 := Stand.of_body Bd
  have e0 : s₁.heap = h0 := by rw [← hh, Bd.state]; rfl
  have N0 := Fr.nil n0
  obtain ⟨T1, X1, e1, st1⟩ := getF X0 hx hZ hown (host := "") (Or.inl (tw_12 hw)) Via.refl e0 f1 (g := (mkF m 1 #[.val (.ref c0_a), .val (.int 1)] [(.ref c0_a)])) rfl rfl (hb hby d5_1)
  have va2 := f2
  obtain ⟨cl2, Ar2, -, S2, -, H2, -⟩ := va2
  have hin2 : ¬ ((0 : Int32) < 0 ∨ cl2.slots.size ≤ ((0 : Int32)).toNatClampNeg) := inb_of S2 ⟨by decide, by decide⟩
  have hat2 : cl2.slots[((0 : Int32)).toNatClampNeg]? = some (.ref c3_a) := H2 _ (Nat.lt_of_not_le fun y => hin2 (Or.inr y))
  obtain ⟨fs, hr, hrun, hended, hW, hsame⟩ := X1.leave (v := (some (.int 1))) (fun h => by rw [Bd.returns] at h; cases h)
  refine ⟨_, _, castTop (ef5_RI m c0_a (1 : Int32)) ?_, hrun, hended, _, _, rfl, ?_, ⟨_, rfl⟩, hW, hsame.mono (by decide) (by decide)⟩
  · show Steps p.tables e below (s₁.setTop (mkF m 0 #[.val (.ref c0_a), .val (.int 1)] [])) _
    refine XS.aloadN X0.here hx rfl (hb hby d5_0) rfl rfl ?_
    show Steps p.tables e below (s₁.setTop (mkF m 1 #[.val (.ref c0_a), .val (.int 1)] [(.ref c0_a)])) _
    refine st1 _ ?_
    refine XS.iloadN X1.here hx rfl (hb hby d5_4) rfl ?_
    refine XS.iconst X1.here hx rfl (hb hby d5_5) ?_
    show Steps p.tables e below (T1.setTop (mkF m 6 #[.val (.ref c0_a), .val (.int 1)] [(.int 1), (.int 1), (.ref c1_a)])) _
    refine XS.isub X1.here hx rfl (hb hby d5_6) rfl ?_
    show Steps p.tables e below (T1.setTop (mkF m 7 #[.val (.ref c0_a), .val (.int 1)] [(.int ((1 : Int32) - (1 : Int32))), (.ref c1_a)])) _
    rw [show ((1 : Int32) - (1 : Int32)) = (0 : Int32) from by decide]
    show Steps p.tables e below (T1.setTop (mkF m 7 #[.val (.ref c0_a), .val (.int 1)] [(.int 0), (.ref c1_a)])) _
    refine X1.aaload hx (j := (0 : Int32)) (v := (.ref c3_a)) (by rw [e1]; exact Ar2.1) (State.isArrayOf_alike hZ.alike Ar2.2.1) rfl Ar2.2.2 hin2 hat2 (g := (mkF m 7 #[.val (.ref c0_a), .val (.int 1)] [(.int 0), (.ref c1_a)])) rfl rfl (hb hby d5_7) _ ?_
    refine XS.ifnullNo X1.here hx rfl (hb hby d5_8) rfl ?_
    refine XS.iconst X1.here hx rfl (hb hby d5_11) ?_
    refine XS.goto X1.here hx rfl (pc0 := 12) (pc' := 16) rfl (hb hby d5_12) (by decide) (by decide) ?_
    show Steps p.tables e below (T1.setTop (mkF m 16 #[.val (.ref c0_a), .val (.int 1)] [(.int 1)])) _
    exact retN X1 hx (t := .boolean) Bd.returns (by simp) (hb hby d5_16) hr
  · show QP (some (.int 1)) h0 n0 _ T1.heap _
    rw [e1]
    exact ⟨rfl, N0, rfl⟩
set_option maxRecDepth 65536 in
set_option maxHeartbeats 40000000 in
theorem sg161_173 {p : Program} {l : Launch} {e : Env} {s : State} {m : MethodId} {below : List Frame} {meth : Method} {c : Code} {T0 : State} {locs : List Loc} {Z : State} {a0 : Array Value} (p0 : Int32) (p1 : Int32) (p2 : Int64) (gq4 : Int32) (gq6 : Int32) (gq7 : Int32) (gq8 : Int32) (jam : Int64) (gq11 : Int64) (c0_a : Addr) (c1_a : Addr) (c2_k : ClassId) (c3_a : Addr) (gx1 : Value) (gx2 : Value) {h0 : Heap} {n0 : Nat} (X0 : Stand p l e room_1 s m #[(.int p0), (.int p1), (.long p2)] below meth c T0 locs 6 8) (hx : p.tables.exec = Jvm.exec) (hZ : Z.Warmed39 s.vm) (hw : ∀ d ∈ tables_1, d.before a0 Z = true) (hby : c.code = code) (hml : c.maxLocals = 15) (hown : s.vm.findClass "hexwright/engine/SealedBidsHasBidPinLaw" = some m.cls) (e0 : T0.heap = h0) (N0 : Fr n0 locs) (Z0 : n0 ≤ h0.size) (f1 : F_0 Z h0 c0_a (.ref c1_a)) (f2 : Arv Z h0 c1_a c2_k (.object "java/lang/Long") (3 : Int32) [(.ref c3_a), gx1, gx2] .null) (f3 : E_1 Z h0 c0_a) :
    ∃ (T : State) (L : List Loc), Stand p l e room_1 s m #[(.int p0), (.int p1), (.long p2)] below meth c T L 6 8 ∧ T.heap = h0 ∧ Fr n0 L ∧ (∀ target, Steps p.tables e below (T.setTop (mkF m 179 #[.val (.int p0), .val (.int p1), .val (.long p2), .second, .val (.int gq4), .val (.int 1), .val (.int gq6), .val (.int gq7), .val (.int gq8), .val (.long jam), .second, .val (.long gq11), .second, .val (.ref c0_a), .val (.int 1)] [])) target → Steps p.tables e below (T0.setTop (mkF m 161 #[.val (.int p0), .val (.int p1), .val (.long p2), .second, .val (.int gq4), .val (.int 1), .val (.int gq6), .val (.int gq7), .val (.int gq8), .val (.long jam), .second, .val (.long gq11), .second, .val (.ref c0_a), .unset] [])) target) := by
  -- pc 164: hexwright/engine/SealedBids.hasBid
  obtain ⟨cq1, kq1, q1a, q1b, q1c⟩ := isOf hZ e0 f3
  obtain ⟨_, _, ⟨T1, L1, k1, n1⟩, -, X1, ⟨Lc1, hQ1, l1, y1, z1⟩, st1⟩ := X0.virtualBack hx (y := M_1) (z := M_1) hown (mvT hZ (tw_28 hw)) (mvT hZ (tw_29 hw)) (notFace_of_selects (args := #[]) (mvT hZ (tw_31 hw))) (mvT hZ (tw_31 hw)) (mvT hZ (tw_30 hw)) (by decide) (backOf (W := 0) (rm5_172 l Z a0 hw [] c0_a c1_a c2_k c3_a gx1 gx2 h0 n0 Z0 f1 f2) hZ (tw_32 hw) (tw_3 hw) (by decide) (by decide)) q1a q1c (g := (mkF m 164 #[.val (.int p0), .val (.int p1), .val (.long p2), .second, .val (.int gq4), .val (.int 1), .val (.int gq6), .val (.int gq7), .val (.int gq8), .val (.long jam), .second, .val (.long gq11), .second, .val (.ref c0_a), .unset] [(.int 1), (.ref c0_a)])) rfl (by rw [hml]; rfl) (Steps.refl _) (argsL := [(.int 1)]) (rest := []) (lenOf pd_1 rfl) rfl (by show 2 * 0 + _ ≤ _; exact Nat.le_of_eq rfl) (hb hby at_164) (fun _ _ => ⟨rfl, e0, (by decide : 6 + 0 ≤ _), (by decide : 8 + 0 ≤ _)⟩)
  dsimp only [Pt.U, Pt.locs, Pt.cells, Pt.slots] at X1 l1 y1 z1 st1 hQ1
  subst l1 y1 z1
  obtain ⟨rfl, Nq1, e1⟩ := hQ1
  have N1 := Fr.app N0 Nq1
  refine ⟨T1, _, X1, e1, N1, fun target kt => ?_⟩
  show Steps p.tables e below (T0.setTop (mkF m 161 #[.val (.int p0), .val (.int p1), .val (.long p2), .second, .val (.int gq4), .val (.int 1), .val (.int gq6), .val (.int gq7), .val (.int gq8), .val (.long jam), .second, .val (.long gq11), .second, .val (.ref c0_a), .unset] [])) _
  refine XS.aload X0.here hx rfl (hb hby at_161) rfl rfl ?_
  refine XS.iconst X0.here hx rfl (hb hby at_163) ?_
  show Steps p.tables e below (T0.setTop (mkF m 164 #[.val (.int p0), .val (.int p1), .val (.long p2), .second, .val (.int gq4), .val (.int 1), .val (.int gq6), .val (.int gq7), .val (.int gq8), .val (.long jam), .second, .val (.long gq11), .second, .val (.ref c0_a), .unset] [(.int 1), (.ref c0_a)])) _
  refine st1.trans ?_
  refine XS.iload X1.here hx rfl (hb hby at_167) rfl ?_
  refine XS.icmpNo X1.here hx rfl (hb hby at_169) rfl (by decide) ?_
  refine XS.iconst X1.here hx rfl (hb hby at_172) ?_
  refine XS.goto X1.here hx rfl (pc0 := 173) (pc' := 177) rfl (hb hby at_173) (by decide) (by decide) ?_
  show Steps p.tables e below (T1.setTop (mkF m 177 #[.val (.int p0), .val (.int p1), .val (.long p2), .second, .val (.int gq4), .val (.int 1), .val (.int gq6), .val (.int gq7), .val (.int gq8), .val (.long jam), .second, .val (.long gq11), .second, .val (.ref c0_a), .unset] [(.int 1)])) _
  refine XS.istore X1.here hx rfl (hb hby at_177) rfl (l' := #[.val (.int p0), .val (.int p1), .val (.long p2), .second, .val (.int gq4), .val (.int 1), .val (.int gq6), .val (.int gq7), .val (.int gq8), .val (.long jam), .second, .val (.long gq11), .second, .val (.ref c0_a), .val (.int 1)]) rfl ?_
  show Steps p.tables e below (T1.setTop (mkF m 179 #[.val (.int p0), .val (.int p1), .val (.long p2), .second, .val (.int gq4), .val (.int 1), .val (.int gq6), .val (.int gq7), .val (.int gq8), .val (.long jam), .second, .val (.long gq11), .second, .val (.ref c0_a), .val (.int 1)] [])) _
  exact kt
set_option maxRecDepth 65536 in
set_option maxHeartbeats 40000000 in
theorem rm0_174 (l : Launch) (Z : State) (a0 : Array Value) (hw : ∀ d ∈ tables_1, d.before a0 Z = true) (ws : List Jvm.Cond) (p0 : Int32) (p1 : Int32) (p2 : Int64) (jam : Int64) (a_cache : Addr) (h0 : Heap) (n0 : Nat) (Z0 : n0 ≤ h0.size) (f1 : (p0 &&& (3 : Int32)) = (2 : Int32)) (f2 : ¬ ((p1 &&& (1 : Int32)) = (0 : Int32))) (f3 : (p1 &&& (2 : Int32)) = (0 : Int32)) (f4 : (p1 &&& (4 : Int32)) = (0 : Int32)) (f5 : (p2 &&& (9223372036854775807 : Int64)) = jam) (f6 : ¬ ((lcmpW jam (0 : Int64)) < (0 : Int32))) (f7 : ¬ ((0 : Int32) < (lcmpW jam (9223372036854775807 : Int64)))) (f8 : ¬ ((lcmpW jam (-128 : Int64)) < (0 : Int32))) (f9 : S_0 Z h0 (.ref a_cache)) (f10 : OwnAll Z h0 a_cache "java/lang/Long") :
    MetFree l x (head1 (Jvm.Cond.code x code maxLocals ret :: ws) room_1) (fun a U => a = #[(.int p0), (.int p1), (.long p2)] ∧ Z.Warmed39 U.vm ∧ U.heap = h0) (fun _ _ _ _ _ => True) (fun _ U o U' => ∃ v L, o = .returned v ∧ QT n0 v U'.heap L ∧ FrameEnd U o U' L room_1.cells room_1.slots) := by
  refine MetFree.of_bodySF (plainFor_of_name pn_hexwright_engine_SealedBidsHasBidPinLaw) hisR ?_
  intro p e s m args below meth c s₁ Bd hml0 hP hK
  obtain ⟨rfl, hZ, hh⟩ := hP
  have hx := Bd.exec
  have hby := Bd.bytes
  have hml : c.maxLocals = 15 := hml0
  have hown : s.vm.findClass "hexwright/engine/SealedBidsHasBidPinLaw" = some m.cls := findClass_of_methodNamed Bd.named
  have hnm := (name_of_methodNamed Bd.named Bd.method).1
  have X0 : Stand p l e room_1 s m #[(.int p0), (.int p1), (.long p2)] below meth c s₁ [] 0 0 := Stand.of_body Bd
  have e0 : s₁.heap = h0 := by rw [← hh, Bd.state]; rfl
  have N0 := Fr.nil n0
  obtain ⟨T1, L1, X1, e1, N1, st1⟩ := sg7_27 p0 p1 p2 (3 : Int32) X0 hx hZ hw hby hml hown e0 N0 Z0 f2
  obtain ⟨T2, L2, X2, e2, N2, st2⟩ := sg20_105 p0 p1 p2 (1 : Int32) X1 hx hZ hw hby hml hown e1 N1 Z0 f3
  obtain ⟨T3, L3, X3, e3, N3, st3⟩ := sg39_106 p0 p1 p2 (1 : Int32) (0 : Int32) X2 hx hZ hw hby hml hown e2 N2 Z0 f4
  obtain ⟨T4, L4, X4, e4, N4, st4⟩ := sg58_107 p0 p1 p2 (1 : Int32) (0 : Int32) (0 : Int32) X3 hx hZ hw hby hml hown e3 N3 Z0 
  obtain ⟨T5, L5, X5, e5, N5, st5⟩ := sg78_5 p0 p1 p2 (3 : Int32) (1 : Int32) (0 : Int32) (0 : Int32) (0 : Int32) jam X4 hx hZ hw hby hml hown e4 N4 Z0 f5
  obtain ⟨T6, h6, L6, b163, b164, kc165, X6, e6, N6, K6, le_b163, le_b164, o6_0, o6_1, o6_2, o6_3, o6_4, st6⟩ := sg90_115 p0 p1 p2 (1 : Int32) (0 : Int32) (0 : Int32) (0 : Int32) jam (9223372036854775807 : Int64) X5 hx hZ hw hby hml hown e5 N5 Z0 
  have sz_b163 : h0.size ≤ b163 := Nat.le_trans (Nat.le_refl _) le_b163
  have g_b163 : n0 ≤ b163 := Nat.le_trans Z0 sz_b163
  have sz_b164 : h0.size ≤ b164 := Nat.le_trans (Nat.le_refl _) le_b164
  have g_b164 : n0 ≤ b164 := Nat.le_trans Z0 sz_b164
  have KK6 : Keep h0 h6 [] := (Keep.refl h0 []).trans K6 (fun x hx => nomatch hx)
  have u8 : S_0 Z h6 (.ref a_cache) := own_sta_keep f9 K6 (fun _ q => nomatch q)
  have u9 : OwnAll Z h6 a_cache "java/lang/Long" := own_all_keep f10 K6 List.not_mem_nil
  obtain ⟨T7, h7, L7, bx171, X7, e7, N7, K7, o7_0, st7⟩ := sg101_170 p0 p1 p2 (3 : Int32) (0 : Int32) (0 : Int32) (0 : Int32) jam b163 b164 kc165 .null .null a_cache X6 hx hZ hw hby hml hown e6 N6 (Nat.le_trans Z0 KK6.1) o6_1 o6_2 f6 f7 f8 u8 u9 g_b164 o6_3 o6_0
  have KK7 : Keep h0 h7 [] := KK6.trans K7 (fun x hx => (List.mem_cons.mp hx).elim (fun q => q ▸ (Or.inr sz_b164)) (fun hx => nomatch hx))
  obtain ⟨T10, L10, X10, e10, N10, st10⟩ := sg116_120 p0 p1 p2 (3 : Int32) (1 : Int32) (0 : Int32) (0 : Int32) jam b163 X7 hx hZ hw hby hml hown e7 N7 (Nat.le_trans Z0 KK7.1) 
  obtain ⟨T11, L11, X11, e11, N11, st11⟩ := sg131_121 p0 p1 p2 (3 : Int32) (1 : Int32) (0 : Int32) (0 : Int32) jam b163 X10 hx hZ hw hby hml hown e10 N10 (Nat.le_trans Z0 KK7.1) 
  obtain ⟨T12, L12, X12, e12, N12, st12⟩ := sg146_122 p0 p1 p2 (3 : Int32) (1 : Int32) (0 : Int32) (0 : Int32) jam b163 X11 hx hZ hw hby hml hown e11 N11 (Nat.le_trans Z0 KK7.1) 
  have u14 : F_0 Z h7 b163 (.ref b164) := Fld.keep o6_1 K7 (own_notin o6_4 List.not_mem_nil)
  have u15 : E_1 Z h7 b163 := Exa.keep o6_0 K7
  obtain ⟨T13, L13, X13, e13, N13, st13⟩ := sg161_173 p0 p1 p2 (3 : Int32) (0 : Int32) (0 : Int32) (0 : Int32) jam (9223372036854775807 : Int64) b163 b164 kc165 bx171 .null .null X12 hx hZ hw hby hml hown e12 N12 (Nat.le_trans Z0 KK7.1) u14 o7_0 u15
  obtain ⟨T16, L16, X16, e16, N16, st16⟩ := sg179_126 p0 p1 p2 (1 : Int32) (0 : Int32) (0 : Int32) jam (9223372036854775807 : Int64) b163 b164 kc165 (.ref bx171) .null X13 hx hZ hw hby hml hown e13 N13 (Nat.le_trans Z0 KK7.1) u14 o7_0 u15
  obtain ⟨T17, L17, X17, e17, N17, st17⟩ := sg208_128 p0 p1 p2 (1 : Int32) (0 : Int32) (0 : Int32) jam (9223372036854775807 : Int64) b163 b164 kc165 (.ref bx171) .null X16 hx hZ hw hby hml hown e16 N16 (Nat.le_trans Z0 KK7.1) u14 o7_0 u15
  obtain ⟨T18, L18, X18, e18, N18, st18⟩ := sg237_129 p0 p1 p2 (1 : Int32) (0 : Int32) (0 : Int32) jam (9223372036854775807 : Int64) b163 X17 hx hZ hw hby hml hown e17 N17 (Nat.le_trans Z0 KK7.1) 
  obtain ⟨fs, hr, hrun, hended, hW, hsame⟩ := X18.leave (v := (some (.int 1))) (fun h => by rw [Bd.returns] at h; cases h)
  refine ⟨_, _, castTop (ef0_IIJ m p0 p1 p2) ?_, hrun, hended, _, _, rfl, ?_, ⟨_, rfl⟩, hW, hsame.mono (by decide) (by decide)⟩
  · show Steps p.tables e below (s₁.setTop (mkF m 0 #[.val (.int p0), .val (.int p1), .val (.long p2), .second, .unset, .unset, .unset, .unset, .unset, .unset, .unset, .unset, .unset, .unset, .unset] [])) _
    refine XS.iloadN X0.here hx rfl (hb hby at_0) rfl ?_
    refine XS.iconst X0.here hx rfl (hb hby at_1) ?_
    show Steps p.tables e below (s₁.setTop (mkF m 2 #[.val (.int p0), .val (.int p1), .val (.long p2), .second, .unset, .unset, .unset, .unset, .unset, .unset, .unset, .unset, .unset, .unset, .unset] [(.int 3), (.int p0)])) _
    refine XS.iand X0.here hx rfl (hb hby at_2) rfl ?_
    show Steps p.tables e below (s₁.setTop (mkF m 3 #[.val (.int p0), .val (.int p1), .val (.long p2), .second, .unset, .unset, .unset, .unset, .unset, .unset, .unset, .unset, .unset, .unset, .unset] [(.int (p0 &&& (3 : Int32)))])) _
    rw [f1]
    refine XS.iconst X0.here hx rfl (hb hby at_3) ?_
    show Steps p.tables e below (s₁.setTop (mkF m 4 #[.val (.int p0), .val (.int p1), .val (.long p2), .second, .unset, .unset, .unset, .unset, .unset, .unset, .unset, .unset, .unset, .unset, .unset] [(.int 1), (.int 2)])) _
    refine XS.iadd X0.here hx rfl (hb hby at_4) rfl ?_
    show Steps p.tables e below (s₁.setTop (mkF m 5 #[.val (.int p0), .val (.int p1), .val (.long p2), .second, .unset, .unset, .unset, .unset, .unset, .unset, .unset, .unset, .unset, .unset, .unset] [(.int ((2 : Int32) + (1 : Int32)))])) _
    rw [show ((2 : Int32) + (1 : Int32)) = (3 : Int32) from by decide]
    refine XS.istore X0.here hx rfl (hb hby at_5) rfl (l' := #[.val (.int p0), .val (.int p1), .val (.long p2), .second, .val (.int 3), .unset, .unset, .unset, .unset, .unset, .unset, .unset, .unset, .unset, .unset]) rfl ?_
    show Steps p.tables e below (s₁.setTop (mkF m 7 #[.val (.int p0), .val (.int p1), .val (.long p2), .second, .val (.int 3), .unset, .unset, .unset, .unset, .unset, .unset, .unset, .unset, .unset, .unset] [])) _
    refine st1 _ ?_
    show Steps p.tables e below (T1.setTop (mkF m 20 #[.val (.int p0), .val (.int p1), .val (.long p2), .second, .val (.int 3), .val (.int 1), .unset, .unset, .unset, .unset, .unset, .unset, .unset, .unset, .unset] [])) _
    refine st2 _ ?_
    show Steps p.tables e below (T2.setTop (mkF m 39 #[.val (.int p0), .val (.int p1), .val (.long p2), .second, .val (.int 3), .val (.int 1), .val (.int 0), .unset, .unset, .unset, .unset, .unset, .unset, .unset, .unset] [])) _
    refine st3 _ ?_
    show Steps p.tables e below (T3.setTop (mkF m 58 #[.val (.int p0), .val (.int p1), .val (.long p2), .second, .val (.int 3), .val (.int 1), .val (.int 0), .val (.int 0), .unset, .unset, .unset, .unset, .unset, .unset, .unset] [])) _
    refine st4 _ ?_
    show Steps p.tables e below (T4.setTop (mkF m 78 #[.val (.int p0), .val (.int p1), .val (.long p2), .second, .val (.int 3), .val (.int 1), .val (.int 0), .val (.int 0), .val (.int 0), .unset, .unset, .unset, .unset, .unset, .unset] [])) _
    refine st5 _ ?_
    show Steps p.tables e below (T5.setTop (mkF m 90 #[.val (.int p0), .val (.int p1), .val (.long p2), .second, .val (.int 3), .val (.int 1), .val (.int 0), .val (.int 0), .val (.int 0), .val (.long jam), .second, .val (.long 9223372036854775807), .second, .unset, .unset] [])) _
    refine st6 _ ?_
    show Steps p.tables e below (T6.setTop (mkF m 101 #[.val (.int p0), .val (.int p1), .val (.long p2), .second, .val (.int 3), .val (.int 1), .val (.int 0), .val (.int 0), .val (.int 0), .val (.long jam), .second, .val (.long 9223372036854775807), .second, .val (.ref b163), .unset] [])) _
    refine st7 _ ?_
    show Steps p.tables e below (T7.setTop (mkF m 116 #[.val (.int p0), .val (.int p1), .val (.long p2), .second, .val (.int 3), .val (.int 1), .val (.int 0), .val (.int 0), .val (.int 0), .val (.long jam), .second, .val (.long 9223372036854775807), .second, .val (.ref b163), .unset] [])) _
    refine st10 _ ?_
    show Steps p.tables e below (T10.setTop (mkF m 131 #[.val (.int p0), .val (.int p1), .val (.long p2), .second, .val (.int 3), .val (.int 1), .val (.int 0), .val (.int 0), .val (.int 0), .val (.long jam), .second, .val (.long 9223372036854775807), .second, .val (.ref b163), .unset] [])) _
    refine st11 _ ?_
    show Steps p.tables e below (T11.setTop (mkF m 146 #[.val (.int p0), .val (.int p1), .val (.long p2), .second, .val (.int 3), .val (.int 1), .val (.int 0), .val (.int 0), .val (.int 0), .val (.long jam), .second, .val (.long 9223372036854775807), .second, .val (.ref b163), .unset] [])) _
    refine st12 _ ?_
    show Steps p.tables e below (T12.setTop (mkF m 161 #[.val (.int p0), .val (.int p1), .val (.long p2), .second, .val (.int 3), .val (.int 1), .val (.int 0), .val (.int 0), .val (.int 0), .val (.long jam), .second, .val (.long 9223372036854775807), .second, .val (.ref b163), .unset] [])) _
    refine st13 _ ?_
    show Steps p.tables e below (T13.setTop (mkF m 179 #[.val (.int p0), .val (.int p1), .val (.long p2), .second, .val (.int 3), .val (.int 1), .val (.int 0), .val (.int 0), .val (.int 0), .val (.long jam), .second, .val (.long 9223372036854775807), .second, .val (.ref b163), .val (.int 1)] [])) _
    refine st16 _ ?_
    show Steps p.tables e below (T16.setTop (mkF m 208 #[.val (.int p0), .val (.int p1), .val (.long p2), .second, .val (.int 3), .val (.int 1), .val (.int 0), .val (.int 0), .val (.int 0), .val (.long jam), .second, .val (.long 9223372036854775807), .second, .val (.ref b163), .val (.int 1)] [])) _
    refine st17 _ ?_
    show Steps p.tables e below (T17.setTop (mkF m 237 #[.val (.int p0), .val (.int p1), .val (.long p2), .second, .val (.int 3), .val (.int 1), .val (.int 0), .val (.int 0), .val (.int 0), .val (.long jam), .second, .val (.long 9223372036854775807), .second, .val (.ref b163), .val (.int 1)] [])) _
    refine st18 _ ?_
    refine XS.iload X18.here hx rfl (hb hby at_266) rfl ?_
    show Steps p.tables e below (T18.setTop (mkF m 268 #[.val (.int p0), .val (.int p1), .val (.long p2), .second, .val (.int 3), .val (.int 1), .val (.int 0), .val (.int 0), .val (.int 0), .val (.long jam), .second, .val (.long 9223372036854775807), .second, .val (.ref b163), .val (.int 1)] [(.int 1)])) _
    exact retN X18 hx (t := .boolean) Bd.returns (by simp) (hb hby at_268) hr
  · show QT n0 _ T18.heap _
    rw [e18]
    exact ⟨rfl, N18⟩
set_option maxRecDepth 65536 in
set_option maxHeartbeats 40000000 in
theorem rm0_180 (l : Launch) (Z : State) (a0 : Array Value) (hw : ∀ d ∈ tables_1, d.before a0 Z = true) (ws : List Jvm.Cond) (p0 : Int32) (p1 : Int32) (p2 : Int64) (jam : Int64) (a_cache : Addr) (h0 : Heap) (n0 : Nat) (Z0 : n0 ≤ h0.size) (f1 : (p0 &&& (3 : Int32)) = (2 : Int32)) (f2 : ¬ ((p1 &&& (1 : Int32)) = (0 : Int32))) (f3 : (p1 &&& (2 : Int32)) = (0 : Int32)) (f4 : ¬ ((p1 &&& (4 : Int32)) = (0 : Int32))) (f5 : (p2 &&& (9223372036854775807 : Int64)) = jam) (f6 : ¬ ((lcmpW jam (0 : Int64)) < (0 : Int32))) (f7 : ¬ ((0 : Int32) < (lcmpW jam (9223372036854775807 : Int64)))) (f8 : ¬ ((lcmpW jam (-128 : Int64)) < (0 : Int32))) (f9 : S_0 Z h0 (.ref a_cache)) (f10 : OwnAll Z h0 a_cache "java/lang/Long") (f11 : E_0 Z h0 a_cache) :
    MetFree l x (head1 (Jvm.Cond.code x code maxLocals ret :: ws) room_1) (fun a U => a = #[(.int p0), (.int p1), (.long p2)] ∧ Z.Warmed39 U.vm ∧ U.heap = h0) (fun _ _ _ _ _ => True) (fun _ U o U' => ∃ v L, o = .returned v ∧ QT n0 v U'.heap L ∧ FrameEnd U o U' L room_1.cells room_1.slots) := by
  refine MetFree.of_bodySF (plainFor_of_name pn_hexwright_engine_SealedBidsHasBidPinLaw) hisR ?_
  intro p e s m args below meth c s₁ Bd hml0 hP hK
  obtain ⟨rfl, hZ, hh⟩ := hP
  have hx := Bd.exec
  have hby := Bd.bytes
  have hml : c.maxLocals = 15 := hml0
  have hown : s.vm.findClass "hexwright/engine/SealedBidsHasBidPinLaw" = some m.cls := findClass_of_methodNamed Bd.named
  have hnm := (name_of_methodNamed Bd.named Bd.method).1
  have X0 : Stand p l e room_1 s m #[(.int p0), (.int p1), (.long p2)] below meth c s₁ [] 0 0 := Stand.of_body Bd
  have e0 : s₁.heap = h0 := by rw [← hh, Bd.state]; rfl
  have N0 := Fr.nil n0
  obtain ⟨T1, L1, X1, e1, N1, st1⟩ := sg7_27 p0 p1 p2 (3 : Int32) X0 hx hZ hw hby hml hown e0 N0 Z0 f2
  obtain ⟨T2, L2, X2, e2, N2, st2⟩ := sg20_105 p0 p1 p2 (1 : Int32) X1 hx hZ hw hby hml hown e1 N1 Z0 f3
  obtain ⟨T3, L3, X3, e3, N3, st3⟩ := sg39_131 p0 p1 p2 (1 : Int32) (0 : Int32) X2 hx hZ hw hby hml hown e2 N2 Z0 f4
  obtain ⟨T4, L4, X4, e4, N4, st4⟩ := sg58_107 p0 p1 p2 (1 : Int32) (0 : Int32) (1 : Int32) X3 hx hZ hw hby hml hown e3 N3 Z0 
  obtain ⟨T5, L5, X5, e5, N5, st5⟩ := sg78_5 p0 p1 p2 (3 : Int32) (1 : Int32) (0 : Int32) (1 : Int32) (0 : Int32) jam X4 hx hZ hw hby hml hown e4 N4 Z0 f5
  obtain ⟨T6, h6, L6, b175, b176, kc177, X6, e6, N6, K6, le_b175, le_b176, o6_0, o6_1, o6_2, o6_3, o6_4, st6⟩ := sg90_115 p0 p1 p2 (1 : Int32) (0 : Int32) (1 : Int32) (0 : Int32) jam (9223372036854775807 : Int64) X5 hx hZ hw hby hml hown e5 N5 Z0 
  have sz_b175 : h0.size ≤ b175 := Nat.le_trans (Nat.le_refl _) le_b175
  have g_b175 : n0 ≤ b175 := Nat.le_trans Z0 sz_b175
  have sz_b176 : h0.size ≤ b176 := Nat.le_trans (Nat.le_refl _) le_b176
  have g_b176 : n0 ≤ b176 := Nat.le_trans Z0 sz_b176
  have KK6 : Keep h0 h6 [] := (Keep.refl h0 []).trans K6 (fun x hx => nomatch hx)
  have u8 : S_0 Z h6 (.ref a_cache) := own_sta_keep f9 K6 (fun _ q => nomatch q)
  have u9 : OwnAll Z h6 a_cache "java/lang/Long" := own_all_keep f10 K6 List.not_mem_nil
  obtain ⟨T7, h7, L7, bx178, X7, e7, N7, K7, o7_0, st7⟩ := sg101_170 p0 p1 p2 (3 : Int32) (0 : Int32) (1 : Int32) (0 : Int32) jam b175 b176 kc177 .null .null a_cache X6 hx hZ hw hby hml hown e6 N6 (Nat.le_trans Z0 KK6.1) o6_1 o6_2 f6 f7 f8 u8 u9 g_b176 o6_3 o6_0
  have KK7 : Keep h0 h7 [] := KK6.trans K7 (fun x hx => (List.mem_cons.mp hx).elim (fun q => q ▸ (Or.inr sz_b176)) (fun hx => nomatch hx))
  obtain ⟨T10, L10, X10, e10, N10, st10⟩ := sg116_120 p0 p1 p2 (3 : Int32) (1 : Int32) (1 : Int32) (0 : Int32) jam b175 X7 hx hZ hw hby hml hown e7 N7 (Nat.le_trans Z0 KK7.1) 
  have u12 : F_0 Z h7 b175 (.ref b176) := Fld.keep o6_1 K7 (own_notin o6_4 List.not_mem_nil)
  have u13 : S_0 Z h7 (.ref a_cache) := own_sta_keep u8 K7 (own_ns (Arv.nostat o6_2) (fun _ q => nomatch q))
  have ne14 : a_cache ≠ b176 := Nat.ne_of_lt (Nat.lt_of_lt_of_le (Exa.lt f11) le_b176)
  have u15 : OwnAll Z h7 a_cache "java/lang/Long" := own_all_keep u9 K7 (own_notin ne14 List.not_mem_nil)
  have u16 : E_1 Z h7 b175 := Exa.keep o6_0 K7
  obtain ⟨T11, h11, L11, bx179, X11, e11, N11, K11, o11_0, st11⟩ := sg131_139 p0 p1 p2 (3 : Int32) (1 : Int32) (0 : Int32) (0 : Int32) jam b175 b176 kc177 (.ref bx178) .null a_cache X10 hx hZ hw hby hml hown e10 N10 (Nat.le_trans Z0 KK7.1) u12 o7_0 f6 f7 f8 u13 u15 g_b176 o6_3 u16
  have KK11 : Keep h0 h11 [] := KK7.trans K11 (fun x hx => (List.mem_cons.mp hx).elim (fun q => q ▸ (Or.inr sz_b176)) (fun hx => nomatch hx))
  obtain ⟨T17, L17, X17, e17, N17, st17⟩ := sg146_122 p0 p1 p2 (3 : Int32) (1 : Int32) (0 : Int32) (1 : Int32) jam b175 X11 hx hZ hw hby hml hown e11 N11 (Nat.le_trans Z0 KK11.1) 
  have u19 : F_0 Z h11 b175 (.ref b176) := Fld.keep u12 K11 (own_notin o6_4 List.not_mem_nil)
  have u20 : E_1 Z h11 b175 := Exa.keep u16 K11
  obtain ⟨T18, L18, X18, e18, N18, st18⟩ := sg161_173 p0 p1 p2 (3 : Int32) (0 : Int32) (1 : Int32) (0 : Int32) jam (9223372036854775807 : Int64) b175 b176 kc177 bx178 .null (.ref bx179) X17 hx hZ hw hby hml hown e17 N17 (Nat.le_trans Z0 KK11.1) u19 o11_0 u20
  obtain ⟨T21, L21, X21, e21, N21, st21⟩ := sg179_126 p0 p1 p2 (1 : Int32) (1 : Int32) (0 : Int32) jam (9223372036854775807 : Int64) b175 b176 kc177 (.ref bx178) (.ref bx179) X18 hx hZ hw hby hml hown e18 N18 (Nat.le_trans Z0 KK11.1) u19 o11_0 u20
  obtain ⟨T22, L22, X22, e22, N22, st22⟩ := sg208_142 p0 p1 p2 (1 : Int32) (0 : Int32) (0 : Int32) jam (9223372036854775807 : Int64) b175 b176 kc177 (.ref bx178) .null bx179 X21 hx hZ hw hby hml hown e21 N21 (Nat.le_trans Z0 KK11.1) u19 o11_0 u20
  obtain ⟨T23, L23, X23, e23, N23, st23⟩ := sg237_129 p0 p1 p2 (1 : Int32) (0 : Int32) (1 : Int32) jam (9223372036854775807 : Int64) b175 X22 hx hZ hw hby hml hown e22 N22 (Nat.le_trans Z0 KK11.1) 
  obtain ⟨fs, hr, hrun, hended, hW, hsame⟩ := X23.leave (v := (some (.int 1))) (fun h => by rw [Bd.returns] at h; cases h)
  refine ⟨_, _, castTop (ef0_IIJ m p0 p1 p2) ?_, hrun, hended, _, _, rfl, ?_, ⟨_, rfl⟩, hW, hsame.mono (by decide) (by decide)⟩
  · show Steps p.tables e below (s₁.setTop (mkF m 0 #[.val (.int p0), .val (.int p1), .val (.long p2), .second, .unset, .unset, .unset, .unset, .unset, .unset, .unset, .unset, .unset, .unset, .unset] [])) _
    refine XS.iloadN X0.here hx rfl (hb hby at_0) rfl ?_
    refine XS.iconst X0.here hx rfl (hb hby at_1) ?_
    show Steps p.tables e below (s₁.setTop (mkF m 2 #[.val (.int p0), .val (.int p1), .val (.long p2), .second, .unset, .unset, .unset, .unset, .unset, .unset, .unset, .unset, .unset, .unset, .unset] [(.int 3), (.int p0)])) _
    refine XS.iand X0.here hx rfl (hb hby at_2) rfl ?_
    show Steps p.tables e below (s₁.setTop (mkF m 3 #[.val (.int p0), .val (.int p1), .val (.long p2), .second, .unset, .unset, .unset, .unset, .unset, .unset, .unset, .unset, .unset, .unset, .unset] [(.int (p0 &&& (3 : Int32)))])) _
    rw [f1]
    refine XS.iconst X0.here hx rfl (hb hby at_3) ?_
    show Steps p.tables e below (s₁.setTop (mkF m 4 #[.val (.int p0), .val (.int p1), .val (.long p2), .second, .unset, .unset, .unset, .unset, .unset, .unset, .unset, .unset, .unset, .unset, .unset] [(.int 1), (.int 2)])) _
    refine XS.iadd X0.here hx rfl (hb hby at_4) rfl ?_
    show Steps p.tables e below (s₁.setTop (mkF m 5 #[.val (.int p0), .val (.int p1), .val (.long p2), .second, .unset, .unset, .unset, .unset, .unset, .unset, .unset, .unset, .unset, .unset, .unset] [(.int ((2 : Int32) + (1 : Int32)))])) _
    rw [show ((2 : Int32) + (1 : Int32)) = (3 : Int32) from by decide]
    refine XS.istore X0.here hx rfl (hb hby at_5) rfl (l' := #[.val (.int p0), .val (.int p1), .val (.long p2), .second, .val (.int 3), .unset, .unset, .unset, .unset, .unset, .unset, .unset, .unset, .unset, .unset]) rfl ?_
    show Steps p.tables e below (s₁.setTop (mkF m 7 #[.val (.int p0), .val (.int p1), .val (.long p2), .second, .val (.int 3), .unset, .unset, .unset, .unset, .unset, .unset, .unset, .unset, .unset, .unset] [])) _
    refine st1 _ ?_
    show Steps p.tables e below (T1.setTop (mkF m 20 #[.val (.int p0), .val (.int p1), .val (.long p2), .second, .val (.int 3), .val (.int 1), .unset, .unset, .unset, .unset, .unset, .unset, .unset, .unset, .unset] [])) _
    refine st2 _ ?_
    show Steps p.tables e below (T2.setTop (mkF m 39 #[.val (.int p0), .val (.int p1), .val (.long p2), .second, .val (.int 3), .val (.int 1), .val (.int 0), .unset, .unset, .unset, .unset, .unset, .unset, .unset, .unset] [])) _
    refine st3 _ ?_
    show Steps p.tables e below (T3.setTop (mkF m 58 #[.val (.int p0), .val (.int p1), .val (.long p2), .second, .val (.int 3), .val (.int 1), .val (.int 0), .val (.int 1), .unset, .unset, .unset, .unset, .unset, .unset, .unset] [])) _
    refine st4 _ ?_
    show Steps p.tables e below (T4.setTop (mkF m 78 #[.val (.int p0), .val (.int p1), .val (.long p2), .second, .val (.int 3), .val (.int 1), .val (.int 0), .val (.int 1), .val (.int 0), .unset, .unset, .unset, .unset, .unset, .unset] [])) _
    refine st5 _ ?_
    show Steps p.tables e below (T5.setTop (mkF m 90 #[.val (.int p0), .val (.int p1), .val (.long p2), .second, .val (.int 3), .val (.int 1), .val (.int 0), .val (.int 1), .val (.int 0), .val (.long jam), .second, .val (.long 9223372036854775807), .second, .unset, .unset] [])) _
    refine st6 _ ?_
    show Steps p.tables e below (T6.setTop (mkF m 101 #[.val (.int p0), .val (.int p1), .val (.long p2), .second, .val (.int 3), .val (.int 1), .val (.int 0), .val (.int 1), .val (.int 0), .val (.long jam), .second, .val (.long 9223372036854775807), .second, .val (.ref b175), .unset] [])) _
    refine st7 _ ?_
    show Steps p.tables e below (T7.setTop (mkF m 116 #[.val (.int p0), .val (.int p1), .val (.long p2), .second, .val (.int 3), .val (.int 1), .val (.int 0), .val (.int 1), .val (.int 0), .val (.long jam), .second, .val (.long 9223372036854775807), .second, .val (.ref b175), .unset] [])) _
    refine st10 _ ?_
    show Steps p.tables e below (T10.setTop (mkF m 131 #[.val (.int p0), .val (.int p1), .val (.long p2), .second, .val (.int 3), .val (.int 1), .val (.int 0), .val (.int 1), .val (.int 0), .val (.long jam), .second, .val (.long 9223372036854775807), .second, .val (.ref b175), .unset] [])) _
    refine st11 _ ?_
    show Steps p.tables e below (T11.setTop (mkF m 146 #[.val (.int p0), .val (.int p1), .val (.long p2), .second, .val (.int 3), .val (.int 1), .val (.int 0), .val (.int 1), .val (.int 0), .val (.long jam), .second, .val (.long 9223372036854775807), .second, .val (.ref b175), .unset] [])) _
    refine st17 _ ?_
    show Steps p.tables e below (T17.setTop (mkF m 161 #[.val (.int p0), .val (.int p1), .val (.long p2), .second, .val (.int 3), .val (.int 1), .val (.int 0), .val (.int 1), .val (.int 0), .val (.long jam), .second, .val (.long 9223372036854775807), .second, .val (.ref b175), .unset] [])) _
    refine st18 _ ?_
    show Steps p.tables e below (T18.setTop (mkF m 179 #[.val (.int p0), .val (.int p1), .val (.long p2), .second, .val (.int 3), .val (.int 1), .val (.int 0), .val (.int 1), .val (.int 0), .val (.long jam), .second, .val (.long 9223372036854775807), .second, .val (.ref b175), .val (.int 1)] [])) _
    refine st21 _ ?_
    show Steps p.tables e below (T21.setTop (mkF m 208 #[.val (.int p0), .val (.int p1), .val (.long p2), .second, .val (.int 3), .val (.int 1), .val (.int 0), .val (.int 1), .val (.int 0), .val (.long jam), .second, .val (.long 9223372036854775807), .second, .val (.ref b175), .val (.int 1)] [])) _
    refine st22 _ ?_
    show Steps p.tables e below (T22.setTop (mkF m 237 #[.val (.int p0), .val (.int p1), .val (.long p2), .second, .val (.int 3), .val (.int 1), .val (.int 0), .val (.int 1), .val (.int 0), .val (.long jam), .second, .val (.long 9223372036854775807), .second, .val (.ref b175), .val (.int 1)] [])) _
    refine st23 _ ?_
    refine XS.iload X23.here hx rfl (hb hby at_266) rfl ?_
    show Steps p.tables e below (T23.setTop (mkF m 268 #[.val (.int p0), .val (.int p1), .val (.long p2), .second, .val (.int 3), .val (.int 1), .val (.int 0), .val (.int 1), .val (.int 0), .val (.long jam), .second, .val (.long 9223372036854775807), .second, .val (.ref b175), .val (.int 1)] [(.int 1)])) _
    exact retN X23 hx (t := .boolean) Bd.returns (by simp) (hb hby at_268) hr
  · show QT n0 _ T23.heap _
    rw [e23]
    exact ⟨rfl, N23⟩
set_option maxRecDepth 65536 in
set_option maxHeartbeats 40000000 in
theorem rm0_186 (l : Launch) (Z : State) (a0 : Array Value) (hw : ∀ d ∈ tables_1, d.before a0 Z = true) (ws : List Jvm.Cond) (p0 : Int32) (p1 : Int32) (p2 : Int64) (jam : Int64) (a_cache : Addr) (h0 : Heap) (n0 : Nat) (Z0 : n0 ≤ h0.size) (f1 : (p0 &&& (3 : Int32)) = (2 : Int32)) (f2 : ¬ ((p1 &&& (1 : Int32)) = (0 : Int32))) (f3 : ¬ ((p1 &&& (2 : Int32)) = (0 : Int32))) (f4 : (p1 &&& (4 : Int32)) = (0 : Int32)) (f5 : (p2 &&& (9223372036854775807 : Int64)) = jam) (f6 : ¬ ((lcmpW jam (0 : Int64)) < (0 : Int32))) (f7 : ¬ ((0 : Int32) < (lcmpW jam (9223372036854775807 : Int64)))) (f8 : ¬ ((lcmpW jam (-128 : Int64)) < (0 : Int32))) (f9 : S_0 Z h0 (.ref a_cache)) (f10 : OwnAll Z h0 a_cache "java/lang/Long") (f11 : E_0 Z h0 a_cache) :
    MetFree l x (head1 (Jvm.Cond.code x code maxLocals ret :: ws) room_1) (fun a U => a = #[(.int p0), (.int p1), (.long p2)] ∧ Z.Warmed39 U.vm ∧ U.heap = h0) (fun _ _ _ _ _ => True) (fun _ U o U' => ∃ v L, o = .returned v ∧ QT n0 v U'.heap L ∧ FrameEnd U o U' L room_1.cells room_1.slots) := by
  refine MetFree.of_bodySF (plainFor_of_name pn_hexwright_engine_SealedBidsHasBidPinLaw) hisR ?_
  intro p e s m args below meth c s₁ Bd hml0 hP hK
  obtain ⟨rfl, hZ, hh⟩ := hP
  have hx := Bd.exec
  have hby := Bd.bytes
  have hml : c.maxLocals = 15 := hml0
  have hown : s.vm.findClass "hexwright/engine/SealedBidsHasBidPinLaw" = some m.cls := findClass_of_methodNamed Bd.named
  have hnm := (name_of_methodNamed Bd.named Bd.method).1
  have X0 : Stand p l e room_1 s m #[(.int p0), (.int p1), (.long p2)] below meth c s₁ [] 0 0 := Stand.of_body Bd
  have e0 : s₁.heap = h0 := by rw [← hh, Bd.state]; rfl
  have N0 := Fr.nil n0
  obtain ⟨T1, L1, X1, e1, N1, st1⟩ := sg7_27 p0 p1 p2 (3 : Int32) X0 hx hZ hw hby hml hown e0 N0 Z0 f2
  obtain ⟨T2, L2, X2, e2, N2, st2⟩ := sg20_144 p0 p1 p2 (1 : Int32) X1 hx hZ hw hby hml hown e1 N1 Z0 f3
  obtain ⟨T3, L3, X3, e3, N3, st3⟩ := sg39_106 p0 p1 p2 (1 : Int32) (1 : Int32) X2 hx hZ hw hby hml hown e2 N2 Z0 f4
  obtain ⟨T4, L4, X4, e4, N4, st4⟩ := sg58_107 p0 p1 p2 (1 : Int32) (1 : Int32) (0 : Int32) X3 hx hZ hw hby hml hown e3 N3 Z0 
  obtain ⟨T5, L5, X5, e5, N5, st5⟩ := sg78_5 p0 p1 p2 (3 : Int32) (1 : Int32) (1 : Int32) (0 : Int32) (0 : Int32) jam X4 hx hZ hw hby hml hown e4 N4 Z0 f5
  obtain ⟨T6, h6, L6, b181, b182, kc183, X6, e6, N6, K6, le_b181, le_b182, o6_0, o6_1, o6_2, o6_3, o6_4, st6⟩ := sg90_115 p0 p1 p2 (1 : Int32) (1 : Int32) (0 : Int32) (0 : Int32) jam (9223372036854775807 : Int64) X5 hx hZ hw hby hml hown e5 N5 Z0 
  have sz_b181 : h0.size ≤ b181 := Nat.le_trans (Nat.le_refl _) le_b181
  have g_b181 : n0 ≤ b181 := Nat.le_trans Z0 sz_b181
  have sz_b182 : h0.size ≤ b182 := Nat.le_trans (Nat.le_refl _) le_b182
  have g_b182 : n0 ≤ b182 := Nat.le_trans Z0 sz_b182
  have KK6 : Keep h0 h6 [] := (Keep.refl h0 []).trans K6 (fun x hx => nomatch hx)
  have u8 : S_0 Z h6 (.ref a_cache) := own_sta_keep f9 K6 (fun _ q => nomatch q)
  have u9 : OwnAll Z h6 a_cache "java/lang/Long" := own_all_keep f10 K6 List.not_mem_nil
  obtain ⟨T7, h7, L7, bx184, X7, e7, N7, K7, o7_0, st7⟩ := sg101_170 p0 p1 p2 (3 : Int32) (1 : Int32) (0 : Int32) (0 : Int32) jam b181 b182 kc183 .null .null a_cache X6 hx hZ hw hby hml hown e6 N6 (Nat.le_trans Z0 KK6.1) o6_1 o6_2 f6 f7 f8 u8 u9 g_b182 o6_3 o6_0
  have KK7 : Keep h0 h7 [] := KK6.trans K7 (fun x hx => (List.mem_cons.mp hx).elim (fun q => q ▸ (Or.inr sz_b182)) (fun hx => nomatch hx))
  have u11 : F_0 Z h7 b181 (.ref b182) := Fld.keep o6_1 K7 (own_notin o6_4 List.not_mem_nil)
  have u12 : S_0 Z h7 (.ref a_cache) := own_sta_keep u8 K7 (own_ns (Arv.nostat o6_2) (fun _ q => nomatch q))
  have ne13 : a_cache ≠ b182 := Nat.ne_of_lt (Nat.lt_of_lt_of_le (Exa.lt f11) le_b182)
  have u14 : OwnAll Z h7 a_cache "java/lang/Long" := own_all_keep u9 K7 (own_notin ne13 List.not_mem_nil)
  have u15 : E_1 Z h7 b181 := Exa.keep o6_0 K7
  obtain ⟨T10, h10, L10, bx185, X10, e10, N10, K10, o10_0, st10⟩ := sg116_152 p0 p1 p2 (3 : Int32) (1 : Int32) (0 : Int32) (0 : Int32) jam b181 b182 kc183 (.ref bx184) .null a_cache X7 hx hZ hw hby hml hown e7 N7 (Nat.le_trans Z0 KK7.1) u11 o7_0 f6 f7 f8 u12 u14 g_b182 o6_3 u15
  have KK10 : Keep h0 h10 [] := KK7.trans K10 (fun x hx => (List.mem_cons.mp hx).elim (fun q => q ▸ (Or.inr sz_b182)) (fun hx => nomatch hx))
  obtain ⟨T16, L16, X16, e16, N16, st16⟩ := sg131_121 p0 p1 p2 (3 : Int32) (1 : Int32) (1 : Int32) (0 : Int32) jam b181 X10 hx hZ hw hby hml hown e10 N10 (Nat.le_trans Z0 KK10.1) 
  obtain ⟨T17, L17, X17, e17, N17, st17⟩ := sg146_122 p0 p1 p2 (3 : Int32) (1 : Int32) (1 : Int32) (0 : Int32) jam b181 X16 hx hZ hw hby hml hown e16 N16 (Nat.le_trans Z0 KK10.1) 
  have u19 : F_0 Z h10 b181 (.ref b182) := Fld.keep u11 K10 (own_notin o6_4 List.not_mem_nil)
  have u20 : E_1 Z h10 b181 := Exa.keep u15 K10
  obtain ⟨T18, L18, X18, e18, N18, st18⟩ := sg161_173 p0 p1 p2 (3 : Int32) (1 : Int32) (0 : Int32) (0 : Int32) jam (9223372036854775807 : Int64) b181 b182 kc183 bx184 (.ref bx185) .null X17 hx hZ hw hby hml hown e17 N17 (Nat.le_trans Z0 KK10.1) u19 o10_0 u20
  obtain ⟨T21, L21, X21, e21, N21, st21⟩ := sg179_155 p0 p1 p2 (1 : Int32) (0 : Int32) (0 : Int32) jam (9223372036854775807 : Int64) b181 b182 kc183 (.ref bx184) bx185 .null X18 hx hZ hw hby hml hown e18 N18 (Nat.le_trans Z0 KK10.1) u19 o10_0 u20
  obtain ⟨T22, L22, X22, e22, N22, st22⟩ := sg208_128 p0 p1 p2 (1 : Int32) (1 : Int32) (0 : Int32) jam (9223372036854775807 : Int64) b181 b182 kc183 (.ref bx184) (.ref bx185) X21 hx hZ hw hby hml hown e21 N21 (Nat.le_trans Z0 KK10.1) u19 o10_0 u20
  obtain ⟨T23, L23, X23, e23, N23, st23⟩ := sg237_129 p0 p1 p2 (1 : Int32) (1 : Int32) (0 : Int32) jam (9223372036854775807 : Int64) b181 X22 hx hZ hw hby hml hown e22 N22 (Nat.le_trans Z0 KK10.1) 
  obtain ⟨fs, hr, hrun, hended, hW, hsame⟩ := X23.leave (v := (some (.int 1))) (fun h => by rw [Bd.returns] at h; cases h)
  refine ⟨_, _, castTop (ef0_IIJ m p0 p1 p2) ?_, hrun, hended, _, _, rfl, ?_, ⟨_, rfl⟩, hW, hsame.mono (by decide) (by decide)⟩
  · show Steps p.tables e below (s₁.setTop (mkF m 0 #[.val (.int p0), .val (.int p1), .val (.long p2), .second, .unset, .unset, .unset, .unset, .unset, .unset, .unset, .unset, .unset, .unset, .unset] [])) _
    refine XS.iloadN X0.here hx rfl (hb hby at_0) rfl ?_
    refine XS.iconst X0.here hx rfl (hb hby at_1) ?_
    show Steps p.tables e below (s₁.setTop (mkF m 2 #[.val (.int p0), .val (.int p1), .val (.long p2), .second, .unset, .unset, .unset, .unset, .unset, .unset, .unset, .unset, .unset, .unset, .unset] [(.int 3), (.int p0)])) _
    refine XS.iand X0.here hx rfl (hb hby at_2) rfl ?_
    show Steps p.tables e below (s₁.setTop (mkF m 3 #[.val (.int p0), .val (.int p1), .val (.long p2), .second, .unset, .unset, .unset, .unset, .unset, .unset, .unset, .unset, .unset, .unset, .unset] [(.int (p0 &&& (3 : Int32)))])) _
    rw [f1]
    refine XS.iconst X0.here hx rfl (hb hby at_3) ?_
    show Steps p.tables e below (s₁.setTop (mkF m 4 #[.val (.int p0), .val (.int p1), .val (.long p2), .second, .unset, .unset, .unset, .unset, .unset, .unset, .unset, .unset, .unset, .unset, .unset] [(.int 1), (.int 2)])) _
    refine XS.iadd X0.here hx rfl (hb hby at_4) rfl ?_
    show Steps p.tables e below (s₁.setTop (mkF m 5 #[.val (.int p0), .val (.int p1), .val (.long p2), .second, .unset, .unset, .unset, .unset, .unset, .unset, .unset, .unset, .unset, .unset, .unset] [(.int ((2 : Int32) + (1 : Int32)))])) _
    rw [show ((2 : Int32) + (1 : Int32)) = (3 : Int32) from by decide]
    refine XS.istore X0.here hx rfl (hb hby at_5) rfl (l' := #[.val (.int p0), .val (.int p1), .val (.long p2), .second, .val (.int 3), .unset, .unset, .unset, .unset, .unset, .unset, .unset, .unset, .unset, .unset]) rfl ?_
    show Steps p.tables e below (s₁.setTop (mkF m 7 #[.val (.int p0), .val (.int p1), .val (.long p2), .second, .val (.int 3), .unset, .unset, .unset, .unset, .unset, .unset, .unset, .unset, .unset, .unset] [])) _
    refine st1 _ ?_
    show Steps p.tables e below (T1.setTop (mkF m 20 #[.val (.int p0), .val (.int p1), .val (.long p2), .second, .val (.int 3), .val (.int 1), .unset, .unset, .unset, .unset, .unset, .unset, .unset, .unset, .unset] [])) _
    refine st2 _ ?_
    show Steps p.tables e below (T2.setTop (mkF m 39 #[.val (.int p0), .val (.int p1), .val (.long p2), .second, .val (.int 3), .val (.int 1), .val (.int 1), .unset, .unset, .unset, .unset, .unset, .unset, .unset, .unset] [])) _
    refine st3 _ ?_
    show Steps p.tables e below (T3.setTop (mkF m 58 #[.val (.int p0), .val (.int p1), .val (.long p2), .second, .val (.int 3), .val (.int 1), .val (.int 1), .val (.int 0), .unset, .unset, .unset, .unset, .unset, .unset, .unset] [])) _
    refine st4 _ ?_
    show Steps p.tables e below (T4.setTop (mkF m 78 #[.val (.int p0), .val (.int p1), .val (.long p2), .second, .val (.int 3), .val (.int 1), .val (.int 1), .val (.int 0), .val (.int 0), .unset, .unset, .unset, .unset, .unset, .unset] [])) _
    refine st5 _ ?_
    show Steps p.tables e below (T5.setTop (mkF m 90 #[.val (.int p0), .val (.int p1), .val (.long p2), .second, .val (.int 3), .val (.int 1), .val (.int 1), .val (.int 0), .val (.int 0), .val (.long jam), .second, .val (.long 9223372036854775807), .second, .unset, .unset] [])) _
    refine st6 _ ?_
    show Steps p.tables e below (T6.setTop (mkF m 101 #[.val (.int p0), .val (.int p1), .val (.long p2), .second, .val (.int 3), .val (.int 1), .val (.int 1), .val (.int 0), .val (.int 0), .val (.long jam), .second, .val (.long 9223372036854775807), .second, .val (.ref b181), .unset] [])) _
    refine st7 _ ?_
    show Steps p.tables e below (T7.setTop (mkF m 116 #[.val (.int p0), .val (.int p1), .val (.long p2), .second, .val (.int 3), .val (.int 1), .val (.int 1), .val (.int 0), .val (.int 0), .val (.long jam), .second, .val (.long 9223372036854775807), .second, .val (.ref b181), .unset] [])) _
    refine st10 _ ?_
    show Steps p.tables e below (T10.setTop (mkF m 131 #[.val (.int p0), .val (.int p1), .val (.long p2), .second, .val (.int 3), .val (.int 1), .val (.int 1), .val (.int 0), .val (.int 0), .val (.long jam), .second, .val (.long 9223372036854775807), .second, .val (.ref b181), .unset] [])) _
    refine st16 _ ?_
    show Steps p.tables e below (T16.setTop (mkF m 146 #[.val (.int p0), .val (.int p1), .val (.long p2), .second, .val (.int 3), .val (.int 1), .val (.int 1), .val (.int 0), .val (.int 0), .val (.long jam), .second, .val (.long 9223372036854775807), .second, .val (.ref b181), .unset] [])) _
    refine st17 _ ?_
    show Steps p.tables e below (T17.setTop (mkF m 161 #[.val (.int p0), .val (.int p1), .val (.long p2), .second, .val (.int 3), .val (.int 1), .val (.int 1), .val (.int 0), .val (.int 0), .val (.long jam), .second, .val (.long 9223372036854775807), .second, .val (.ref b181), .unset] [])) _
    refine st18 _ ?_
    show Steps p.tables e below (T18.setTop (mkF m 179 #[.val (.int p0), .val (.int p1), .val (.long p2), .second, .val (.int 3), .val (.int 1), .val (.int 1), .val (.int 0), .val (.int 0), .val (.long jam), .second, .val (.long 9223372036854775807), .second, .val (.ref b181), .val (.int 1)] [])) _
    refine st21 _ ?_
    show Steps p.tables e below (T21.setTop (mkF m 208 #[.val (.int p0), .val (.int p1), .val (.long p2), .second, .val (.int 3), .val (.int 1), .val (.int 1), .val (.int 0), .val (.int 0), .val (.long jam), .second, .val (.long 9223372036854775807), .second, .val (.ref b181), .val (.int 1)] [])) _
    refine st22 _ ?_
    show Steps p.tables e below (T22.setTop (mkF m 237 #[.val (.int p0), .val (.int p1), .val (.long p2), .second, .val (.int 3), .val (.int 1), .val (.int 1), .val (.int 0), .val (.int 0), .val (.long jam), .second, .val (.long 9223372036854775807), .second, .val (.ref b181), .val (.int 1)] [])) _
    refine st23 _ ?_
    refine XS.iload X23.here hx rfl (hb hby at_266) rfl ?_
    show Steps p.tables e below (T23.setTop (mkF m 268 #[.val (.int p0), .val (.int p1), .val (.long p2), .second, .val (.int 3), .val (.int 1), .val (.int 1), .val (.int 0), .val (.int 0), .val (.long jam), .second, .val (.long 9223372036854775807), .second, .val (.ref b181), .val (.int 1)] [(.int 1)])) _
    exact retN X23 hx (t := .boolean) Bd.returns (by simp) (hb hby at_268) hr
  · show QT n0 _ T23.heap _
    rw [e23]
    exact ⟨rfl, N23⟩
set_option maxRecDepth 65536 in
set_option maxHeartbeats 40000000 in
theorem rm0_193 (l : Launch) (Z : State) (a0 : Array Value) (hw : ∀ d ∈ tables_1, d.before a0 Z = true) (ws : List Jvm.Cond) (p0 : Int32) (p1 : Int32) (p2 : Int64) (jam : Int64) (a_cache : Addr) (h0 : Heap) (n0 : Nat) (Z0 : n0 ≤ h0.size) (f1 : (p0 &&& (3 : Int32)) = (2 : Int32)) (f2 : ¬ ((p1 &&& (1 : Int32)) = (0 : Int32))) (f3 : ¬ ((p1 &&& (2 : Int32)) = (0 : Int32))) (f4 : ¬ ((p1 &&& (4 : Int32)) = (0 : Int32))) (f5 : (p2 &&& (9223372036854775807 : Int64)) = jam) (f6 : ¬ ((lcmpW jam (0 : Int64)) < (0 : Int32))) (f7 : ¬ ((0 : Int32) < (lcmpW jam (9223372036854775807 : Int64)))) (f8 : ¬ ((lcmpW jam (-128 : Int64)) < (0 : Int32))) (f9 : S_0 Z h0 (.ref a_cache)) (f10 : OwnAll Z h0 a_cache "java/lang/Long") (f11 : E_0 Z h0 a_cache) :
    MetFree l x (head1 (Jvm.Cond.code x code maxLocals ret :: ws) room_1) (fun a U => a = #[(.int p0), (.int p1), (.long p2)] ∧ Z.Warmed39 U.vm ∧ U.heap = h0) (fun _ _ _ _ _ => True) (fun _ U o U' => ∃ v L, o = .returned v ∧ QT n0 v U'.heap L ∧ FrameEnd U o U' L room_1.cells room_1.slots) := by
  refine MetFree.of_bodySF (plainFor_of_name pn_hexwright_engine_SealedBidsHasBidPinLaw) hisR ?_
  intro p e s m args below meth c s₁ Bd hml0 hP hK
  obtain ⟨rfl, hZ, hh⟩ := hP
  have hx := Bd.exec
  have hby := Bd.bytes
  have hml : c.maxLocals = 15 := hml0
  have hown : s.vm.findClass "hexwright/engine/SealedBidsHasBidPinLaw" = some m.cls := findClass_of_methodNamed Bd.named
  have hnm := (name_of_methodNamed Bd.named Bd.method).1
  have X0 : Stand p l e room_1 s m #[(.int p0), (.int p1), (.long p2)] below meth c s₁ [] 0 0 := Stand.of_body Bd
  have e0 : s₁.heap = h0 := by rw [← hh, Bd.state]; rfl
  have N0 := Fr.nil n0
  obtain ⟨T1, L1, X1, e1, N1, st1⟩ := sg7_27 p0 p1 p2 (3 : Int32) X0 hx hZ hw hby hml hown e0 N0 Z0 f2
  obtain ⟨T2, L2, X2, e2, N2, st2⟩ := sg20_144 p0 p1 p2 (1 : Int32) X1 hx hZ hw hby hml hown e1 N1 Z0 f3
  obtain ⟨T3, L3, X3, e3, N3, st3⟩ := sg39_131 p0 p1 p2 (1 : Int32) (1 : Int32) X2 hx hZ hw hby hml hown e2 N2 Z0 f4
  obtain ⟨T4, L4, X4, e4, N4, st4⟩ := sg58_107 p0 p1 p2 (1 : Int32) (1 : Int32) (1 : Int32) X3 hx hZ hw hby hml hown e3 N3 Z0 
  obtain ⟨T5, L5, X5, e5, N5, st5⟩ := sg78_5 p0 p1 p2 (3 : Int32) (1 : Int32) (1 : Int32) (1 : Int32) (0 : Int32) jam X4 hx hZ hw hby hml hown e4 N4 Z0 f5
  obtain ⟨T6, h6, L6, b187, b188, kc189, X6, e6, N6, K6, le_b187, le_b188, o6_0, o6_1, o6_2, o6_3, o6_4, st6⟩ := sg90_115 p0 p1 p2 (1 : Int32) (1 : Int32) (1 : Int32) (0 : Int32) jam (9223372036854775807 : Int64) X5 hx hZ hw hby hml hown e5 N5 Z0 
  have sz_b187 : h0.size ≤ b187 := Nat.le_trans (Nat.le_refl _) le_b187
  have g_b187 : n0 ≤ b187 := Nat.le_trans Z0 sz_b187
  have sz_b188 : h0.size ≤ b188 := Nat.le_trans (Nat.le_refl _) le_b188
  have g_b188 : n0 ≤ b188 := Nat.le_trans Z0 sz_b188
  have KK6 : Keep h0 h6 [] := (Keep.refl h0 []).trans K6 (fun x hx => nomatch hx)
  have u8 : S_0 Z h6 (.ref a_cache) := own_sta_keep f9 K6 (fun _ q => nomatch q)
  have u9 : OwnAll Z h6 a_cache "java/lang/Long" := own_all_keep f10 K6 List.not_mem_nil
  obtain ⟨T7, h7, L7, bx190, X7, e7, N7, K7, o7_0, st7⟩ := sg101_170 p0 p1 p2 (3 : Int32) (1 : Int32) (1 : Int32) (0 : Int32) jam b187 b188 kc189 .null .null a_cache X6 hx hZ hw hby hml hown e6 N6 (Nat.le_trans Z0 KK6.1) o6_1 o6_2 f6 f7 f8 u8 u9 g_b188 o6_3 o6_0
  have KK7 : Keep h0 h7 [] := KK6.trans K7 (fun x hx => (List.mem_cons.mp hx).elim (fun q => q ▸ (Or.inr sz_b188)) (fun hx => nomatch hx))
  have u11 : F_0 Z h7 b187 (.ref b188) := Fld.keep o6_1 K7 (own_notin o6_4 List.not_mem_nil)
  have u12 : S_0 Z h7 (.ref a_cache) := own_sta_keep u8 K7 (own_ns (Arv.nostat o6_2) (fun _ q => nomatch q))
  have ne13 : a_cache ≠ b188 := Nat.ne_of_lt (Nat.lt_of_lt_of_le (Exa.lt f11) le_b188)
  have u14 : OwnAll Z h7 a_cache "java/lang/Long" := own_all_keep u9 K7 (own_notin ne13 List.not_mem_nil)
  have u15 : E_1 Z h7 b187 := Exa.keep o6_0 K7
  obtain ⟨T10, h10, L10, bx191, X10, e10, N10, K10, o10_0, st10⟩ := sg116_152 p0 p1 p2 (3 : Int32) (1 : Int32) (1 : Int32) (0 : Int32) jam b187 b188 kc189 (.ref bx190) .null a_cache X7 hx hZ hw hby hml hown e7 N7 (Nat.le_trans Z0 KK7.1) u11 o7_0 f6 f7 f8 u12 u14 g_b188 o6_3 u15
  have KK10 : Keep h0 h10 [] := KK7.trans K10 (fun x hx => (List.mem_cons.mp hx).elim (fun q => q ▸ (Or.inr sz_b188)) (fun hx => nomatch hx))
  have u17 : F_0 Z h10 b187 (.ref b188) := Fld.keep u11 K10 (own_notin o6_4 List.not_mem_nil)
  have u18 : S_0 Z h10 (.ref a_cache) := own_sta_keep u12 K10 (own_ns (Arv.nostat o7_0) (fun _ q => nomatch q))
  have u19 : OwnAll Z h10 a_cache "java/lang/Long" := own_all_keep u14 K10 (own_notin ne13 List.not_mem_nil)
  have u20 : E_1 Z h10 b187 := Exa.keep u15 K10
  obtain ⟨T16, h16, L16, bx192, X16, e16, N16, K16, o16_0, st16⟩ := sg131_139 p0 p1 p2 (3 : Int32) (1 : Int32) (1 : Int32) (0 : Int32) jam b187 b188 kc189 (.ref bx190) (.ref bx191) a_cache X10 hx hZ hw hby hml hown e10 N10 (Nat.le_trans Z0 KK10.1) u17 o10_0 f6 f7 f8 u18 u19 g_b188 o6_3 u20
  have KK16 : Keep h0 h16 [] := KK10.trans K16 (fun x hx => (List.mem_cons.mp hx).elim (fun q => q ▸ (Or.inr sz_b188)) (fun hx => nomatch hx))
  obtain ⟨T21, L21, X21, e21, N21, st21⟩ := sg146_122 p0 p1 p2 (3 : Int32) (1 : Int32) (1 : Int32) (1 : Int32) jam b187 X16 hx hZ hw hby hml hown e16 N16 (Nat.le_trans Z0 KK16.1) 
  have u23 : F_0 Z h16 b187 (.ref b188) := Fld.keep u17 K16 (own_notin o6_4 List.not_mem_nil)
  have u24 : E_1 Z h16 b187 := Exa.keep u20 K16
  obtain ⟨T22, L22, X22, e22, N22, st22⟩ := sg161_173 p0 p1 p2 (3 : Int32) (1 : Int32) (1 : Int32) (0 : Int32) jam (9223372036854775807 : Int64) b187 b188 kc189 bx190 (.ref bx191) (.ref bx192) X21 hx hZ hw hby hml hown e21 N21 (Nat.le_trans Z0 KK16.1) u23 o16_0 u24
  obtain ⟨T25, L25, X25, e25, N25, st25⟩ := sg179_155 p0 p1 p2 (1 : Int32) (1 : Int32) (0 : Int32) jam (9223372036854775807 : Int64) b187 b188 kc189 (.ref bx190) bx191 (.ref bx192) X22 hx hZ hw hby hml hown e22 N22 (Nat.le_trans Z0 KK16.1) u23 o16_0 u24
  obtain ⟨T26, L26, X26, e26, N26, st26⟩ := sg208_142 p0 p1 p2 (1 : Int32) (1 : Int32) (0 : Int32) jam (9223372036854775807 : Int64) b187 b188 kc189 (.ref bx190) (.ref bx191) bx192 X25 hx hZ hw hby hml hown e25 N25 (Nat.le_trans Z0 KK16.1) u23 o16_0 u24
  obtain ⟨T27, L27, X27, e27, N27, st27⟩ := sg237_129 p0 p1 p2 (1 : Int32) (1 : Int32) (1 : Int32) jam (9223372036854775807 : Int64) b187 X26 hx hZ hw hby hml hown e26 N26 (Nat.le_trans Z0 KK16.1) 
  obtain ⟨fs, hr, hrun, hended, hW, hsame⟩ := X27.leave (v := (some (.int 1))) (fun h => by rw [Bd.returns] at h; cases h)
  refine ⟨_, _, castTop (ef0_IIJ m p0 p1 p2) ?_, hrun, hended, _, _, rfl, ?_, ⟨_, rfl⟩, hW, hsame.mono (by decide) (by decide)⟩
  · show Steps p.tables e below (s₁.setTop (mkF m 0 #[.val (.int p0), .val (.int p1), .val (.long p2), .second, .unset, .unset, .unset, .unset, .unset, .unset, .unset, .unset, .unset, .unset, .unset] [])) _
    refine XS.iloadN X0.here hx rfl (hb hby at_0) rfl ?_
    refine XS.iconst X0.here hx rfl (hb hby at_1) ?_
    show Steps p.tables e below (s₁.setTop (mkF m 2 #[.val (.int p0), .val (.int p1), .val (.long p2), .second, .unset, .unset, .unset, .unset, .unset, .unset, .unset, .unset, .unset, .unset, .unset] [(.int 3), (.int p0)])) _
    refine XS.iand X0.here hx rfl (hb hby at_2) rfl ?_
    show Steps p.tables e below (s₁.setTop (mkF m 3 #[.val (.int p0), .val (.int p1), .val (.long p2), .second, .unset, .unset, .unset, .unset, .unset, .unset, .unset, .unset, .unset, .unset, .unset] [(.int (p0 &&& (3 : Int32)))])) _
    rw [f1]
    refine XS.iconst X0.here hx rfl (hb hby at_3) ?_
    show Steps p.tables e below (s₁.setTop (mkF m 4 #[.val (.int p0), .val (.int p1), .val (.long p2), .second, .unset, .unset, .unset, .unset, .unset, .unset, .unset, .unset, .unset, .unset, .unset] [(.int 1), (.int 2)])) _
    refine XS.iadd X0.here hx rfl (hb hby at_4) rfl ?_
    show Steps p.tables e below (s₁.setTop (mkF m 5 #[.val (.int p0), .val (.int p1), .val (.long p2), .second, .unset, .unset, .unset, .unset, .unset, .unset, .unset, .unset, .unset, .unset, .unset] [(.int ((2 : Int32) + (1 : Int32)))])) _
    rw [show ((2 : Int32) + (1 : Int32)) = (3 : Int32) from by decide]
    refine XS.istore X0.here hx rfl (hb hby at_5) rfl (l' := #[.val (.int p0), .val (.int p1), .val (.long p2), .second, .val (.int 3), .unset, .unset, .unset, .unset, .unset, .unset, .unset, .unset, .unset, .unset]) rfl ?_
    show Steps p.tables e below (s₁.setTop (mkF m 7 #[.val (.int p0), .val (.int p1), .val (.long p2), .second, .val (.int 3), .unset, .unset, .unset, .unset, .unset, .unset, .unset, .unset, .unset, .unset] [])) _
    refine st1 _ ?_
    show Steps p.tables e below (T1.setTop (mkF m 20 #[.val (.int p0), .val (.int p1), .val (.long p2), .second, .val (.int 3), .val (.int 1), .unset, .unset, .unset, .unset, .unset, .unset, .unset, .unset, .unset] [])) _
    refine st2 _ ?_
    show Steps p.tables e below (T2.setTop (mkF m 39 #[.val (.int p0), .val (.int p1), .val (.long p2), .second, .val (.int 3), .val (.int 1), .val (.int 1), .unset, .unset, .unset, .unset, .unset, .unset, .unset, .unset] [])) _
    refine st3 _ ?_
    show Steps p.tables e below (T3.setTop (mkF m 58 #[.val (.int p0), .val (.int p1), .val (.long p2), .second, .val (.int 3), .val (.int 1), .val (.int 1), .val (.int 1), .unset, .unset, .unset, .unset, .unset, .unset, .unset] [])) _
    refine st4 _ ?_
    show Steps p.tables e below (T4.setTop (mkF m 78 #[.val (.int p0), .val (.int p1), .val (.long p2), .second, .val (.int 3), .val (.int 1), .val (.int 1), .val (.int 1), .val (.int 0), .unset, .unset, .unset, .unset, .unset, .unset] [])) _
    refine st5 _ ?_
    show Steps p.tables e below (T5.setTop (mkF m 90 #[.val (.int p0), .val (.int p1), .val (.long p2), .second, .val (.int 3), .val (.int 1), .val (.int 1), .val (.int 1), .val (.int 0), .val (.long jam), .second, .val (.long 9223372036854775807), .second, .unset, .unset] [])) _
    refine st6 _ ?_
    show Steps p.tables e below (T6.setTop (mkF m 101 #[.val (.int p0), .val (.int p1), .val (.long p2), .second, .val (.int 3), .val (.int 1), .val (.int 1), .val (.int 1), .val (.int 0), .val (.long jam), .second, .val (.long 9223372036854775807), .second, .val (.ref b187), .unset] [])) _
    refine st7 _ ?_
    show Steps p.tables e below (T7.setTop (mkF m 116 #[.val (.int p0), .val (.int p1), .val (.long p2), .second, .val (.int 3), .val (.int 1), .val (.int 1), .val (.int 1), .val (.int 0), .val (.long jam), .second, .val (.long 9223372036854775807), .second, .val (.ref b187), .unset] [])) _
    refine st10 _ ?_
    show Steps p.tables e below (T10.setTop (mkF m 131 #[.val (.int p0), .val (.int p1), .val (.long p2), .second, .val (.int 3), .val (.int 1), .val (.int 1), .val (.int 1), .val (.int 0), .val (.long jam), .second, .val (.long 9223372036854775807), .second, .val (.ref b187), .unset] [])) _
    refine st16 _ ?_
    show Steps p.tables e below (T16.setTop (mkF m 146 #[.val (.int p0), .val (.int p1), .val (.long p2), .second, .val (.int 3), .val (.int 1), .val (.int 1), .val (.int 1), .val (.int 0), .val (.long jam), .second, .val (.long 9223372036854775807), .second, .val (.ref b187), .unset] [])) _
    refine st21 _ ?_
    show Steps p.tables e below (T21.setTop (mkF m 161 #[.val (.int p0), .val (.int p1), .val (.long p2), .second, .val (.int 3), .val (.int 1), .val (.int 1), .val (.int 1), .val (.int 0), .val (.long jam), .second, .val (.long 9223372036854775807), .second, .val (.ref b187), .unset] [])) _
    refine st22 _ ?_
    show Steps p.tables e below (T22.setTop (mkF m 179 #[.val (.int p0), .val (.int p1), .val (.long p2), .second, .val (.int 3), .val (.int 1), .val (.int 1), .val (.int 1), .val (.int 0), .val (.long jam), .second, .val (.long 9223372036854775807), .second, .val (.ref b187), .val (.int 1)] [])) _
    refine st25 _ ?_
    show Steps p.tables e below (T25.setTop (mkF m 208 #[.val (.int p0), .val (.int p1), .val (.long p2), .second, .val (.int 3), .val (.int 1), .val (.int 1), .val (.int 1), .val (.int 0), .val (.long jam), .second, .val (.long 9223372036854775807), .second, .val (.ref b187), .val (.int 1)] [])) _
    refine st26 _ ?_
    show Steps p.tables e below (T26.setTop (mkF m 237 #[.val (.int p0), .val (.int p1), .val (.long p2), .second, .val (.int 3), .val (.int 1), .val (.int 1), .val (.int 1), .val (.int 0), .val (.long jam), .second, .val (.long 9223372036854775807), .second, .val (.ref b187), .val (.int 1)] [])) _
    refine st27 _ ?_
    refine XS.iload X27.here hx rfl (hb hby at_266) rfl ?_
    show Steps p.tables e below (T27.setTop (mkF m 268 #[.val (.int p0), .val (.int p1), .val (.long p2), .second, .val (.int 3), .val (.int 1), .val (.int 1), .val (.int 1), .val (.int 0), .val (.long jam), .second, .val (.long 9223372036854775807), .second, .val (.ref b187), .val (.int 1)] [(.int 1)])) _
    exact retN X27 hx (t := .boolean) Bd.returns (by simp) (hb hby at_268) hr
  · show QT n0 _ T27.heap _
    rw [e27]
    exact ⟨rfl, N27⟩
set_option maxRecDepth 65536 in
set_option maxHeartbeats 40000000 in
theorem sg20_194 {p : Program} {l : Launch} {e : Env} {s : State} {m : MethodId} {below : List Frame} {meth : Method} {c : Code} {T0 : State} {locs : List Loc} {Z : State} {a0 : Array Value} (p0 : Int32) (p1 : Int32) (p2 : Int64) (gq5 : Int32) {h0 : Heap} {n0 : Nat} (X0 : Stand p l e room_1 s m #[(.int p0), (.int p1), (.long p2)] below meth c T0 locs 0 0) (hx : p.tables.exec = Jvm.exec) (hZ : Z.Warmed39 s.vm) (hw : ∀ d ∈ tables_1, d.before a0 Z = true) (hby : c.code = code) (hml : c.maxLocals = 15) (hown : s.vm.findClass "hexwright/engine/SealedBidsHasBidPinLaw" = some m.cls) (e0 : T0.heap = h0) (N0 : Fr n0 locs) (Z0 : n0 ≤ h0.size) (f1 : (p1 &&& (2 : Int32)) = (0 : Int32)) :
    ∃ (T : State) (L : List Loc), Stand p l e room_1 s m #[(.int p0), (.int p1), (.long p2)] below meth c T L 0 0 ∧ T.heap = h0 ∧ Fr n0 L ∧ (∀ target, Steps p.tables e below (T.setTop (mkF m 39 #[.val (.int p0), .val (.int p1), .val (.long p2), .second, .val (.int 4), .val (.int gq5), .val (.int 0), .unset, .unset, .unset, .unset, .unset, .unset, .unset, .unset] [])) target → Steps p.tables e below (T0.setTop (mkF m 20 #[.val (.int p0), .val (.int p1), .val (.long p2), .second, .val (.int 4), .val (.int gq5), .unset, .unset, .unset, .unset, .unset, .unset, .unset, .unset, .unset] [])) target) := by
  refine ⟨T0, _, X0, e0, N0, fun target kt => ?_⟩
  show Steps p.tables e below (T0.setTop (mkF m 20 #[.val (.int p0), .val (.int p1), .val (.long p2), .second, .val (.int 4), .val (.int gq5), .unset, .unset, .unset, .unset, .unset, .unset, .unset, .unset, .unset] [])) _
  refine XS.iload X0.here hx rfl (hb hby at_20) rfl ?_
  refine XS.iconst X0.here hx rfl (hb hby at_22) ?_
  refine XS.icmpNo X0.here hx rfl (hb hby at_23) rfl (by decide) ?_
  refine XS.iloadN X0.here hx rfl (hb hby at_26) rfl ?_
  refine XS.iconst X0.here hx rfl (hb hby at_27) ?_
  show Steps p.tables e below (T0.setTop (mkF m 28 #[.val (.int p0), .val (.int p1), .val (.long p2), .second, .val (.int 4), .val (.int gq5), .unset, .unset, .unset, .unset, .unset, .unset, .unset, .unset, .unset] [(.int 2), (.int p1)])) _
  refine XS.iand X0.here hx rfl (hb hby at_28) rfl ?_
  refine XS.ifYes X0.here hx rfl (pc0 := 29) (pc' := 36) rfl (hb hby at_29) rfl ((if0 _ _).trans (teq (f1 : (p1 &&& (2 : Int32)) = (0 : Int32))).1) (by decide) (by decide) ?_
  refine XS.iconst X0.here hx rfl (hb hby at_36) ?_
  refine XS.istore X0.here hx rfl (hb hby at_37) rfl (l' := #[.val (.int p0), .val (.int p1), .val (.long p2), .second, .val (.int 4), .val (.int gq5), .val (.int 0), .unset, .unset, .unset, .unset, .unset, .unset, .unset, .unset]) rfl ?_
  show Steps p.tables e below (T0.setTop (mkF m 39 #[.val (.int p0), .val (.int p1), .val (.long p2), .second, .val (.int 4), .val (.int gq5), .val (.int 0), .unset, .unset, .unset, .unset, .unset, .unset, .unset, .unset] [])) _
  exact kt
set_option maxRecDepth 65536 in
set_option maxHeartbeats 40000000 in
theorem sg39_195 {p : Program} {l : Launch} {e : Env} {s : State} {m : MethodId} {below : List Frame} {meth : Method} {c : Code} {T0 : State} {locs : List Loc} {Z : State} {a0 : Array Value} (p0 : Int32) (p1 : Int32) (p2 : Int64) (gq5 : Int32) (gq6 : Int32) {h0 : Heap} {n0 : Nat} (X0 : Stand p l e room_1 s m #[(.int p0), (.int p1), (.long p2)] below meth c T0 locs 0 0) (hx : p.tables.exec = Jvm.exec) (hZ : Z.Warmed39 s.vm) (hw : ∀ d ∈ tables_1, d.before a0 Z = true) (hby : c.code = code) (hml : c.maxLocals = 15) (hown : s.vm.findClass "hexwright/engine/SealedBidsHasBidPinLaw" = some m.cls) (e0 : T0.heap = h0) (N0 : Fr n0 locs) (Z0 : n0 ≤ h0.size) (f1 : (p1 &&& (4 : Int32)) = (0 : Int32)) :
    ∃ (T : State) (L : List Loc), Stand p l e room_1 s m #[(.int p0), (.int p1), (.long p2)] below meth c T L 0 0 ∧ T.heap = h0 ∧ Fr n0 L ∧ (∀ target, Steps p.tables e below (T.setTop (mkF m 58 #[.val (.int p0), .val (.int p1), .val (.long p2), .second, .val (.int 4), .val (.int gq5), .val (.int gq6), .val (.int 0), .unset, .unset, .unset, .unset, .unset, .unset, .unset] [])) target → Steps p.tables e below (T0.setTop (mkF m 39 #[.val (.int p0), .val (.int p1), .val (.long p2), .second, .val (.int 4), .val (.int gq5), .val (.int gq6), .unset, .unset, .unset, .unset, .unset, .unset, .unset, .unset] [])) target) := by
  refine ⟨T0, _, X0, e0, N0, fun target kt => ?_⟩
  show Steps p.tables e below (T0.setTop (mkF m 39 #[.val (.int p0), .val (.int p1), .val (.long p2), .second, .val (.int 4), .val (.int gq5), .val (.int gq6), .unset, .unset, .unset, .unset, .unset, .unset, .unset, .unset] [])) _
  refine XS.iload X0.here hx rfl (hb hby at_39) rfl ?_
  refine XS.iconst X0.here hx rfl (hb hby at_41) ?_
  refine XS.icmpNo X0.here hx rfl (hb hby at_42) rfl (by decide) ?_
  refine XS.iloadN X0.here hx rfl (hb hby at_45) rfl ?_
  refine XS.iconst X0.here hx rfl (hb hby at_46) ?_
  show Steps p.tables e below (T0.setTop (mkF m 47 #[.val (.int p0), .val (.int p1), .val (.long p2), .second, .val (.int 4), .val (.int gq5), .val (.int gq6), .unset, .unset, .unset, .unset, .unset, .unset, .unset, .unset] [(.int 4), (.int p1)])) _
  refine XS.iand X0.here hx rfl (hb hby at_47) rfl ?_
  refine XS.ifYes X0.here hx rfl (pc0 := 48) (pc' := 55) rfl (hb hby at_48) rfl ((if0 _ _).trans (teq (f1 : (p1 &&& (4 : Int32)) = (0 : Int32))).1) (by decide) (by decide) ?_
  refine XS.iconst X0.here hx rfl (hb hby at_55) ?_
  refine XS.istore X0.here hx rfl (hb hby at_56) rfl (l' := #[.val (.int p0), .val (.int p1), .val (.long p2), .second, .val (.int 4), .val (.int gq5), .val (.int gq6), .val (.int 0), .unset, .unset, .unset, .unset, .unset, .unset, .unset]) rfl ?_
  show Steps p.tables e below (T0.setTop (mkF m 58 #[.val (.int p0), .val (.int p1), .val (.long p2), .second, .val (.int 4), .val (.int gq5), .val (.int gq6), .val (.int 0), .unset, .unset, .unset, .unset, .unset, .unset, .unset] [])) _
  exact kt
set_option maxRecDepth 65536 in
set_option maxHeartbeats 40000000 in
theorem sg58_196 {p : Program} {l : Launch} {e : Env} {s : State} {m : MethodId} {below : List Frame} {meth : Method} {c : Code} {T0 : State} {locs : List Loc} {Z : State} {a0 : Array Value} (p0 : Int32) (p1 : Int32) (p2 : Int64) (gq5 : Int32) (gq6 : Int32) (gq7 : Int32) {h0 : Heap} {n0 : Nat} (X0 : Stand p l e room_1 s m #[(.int p0), (.int p1), (.long p2)] below meth c T0 locs 0 0) (hx : p.tables.exec = Jvm.exec) (hZ : Z.Warmed39 s.vm) (hw : ∀ d ∈ tables_1, d.before a0 Z = true) (hby : c.code = code) (hml : c.maxLocals = 15) (hown : s.vm.findClass "hexwright/engine/SealedBidsHasBidPinLaw" = some m.cls) (e0 : T0.heap = h0) (N0 : Fr n0 locs) (Z0 : n0 ≤ h0.size) (f1 : (p1 &&& (8 : Int32)) = (0 : Int32)) :
    ∃ (T : State) (L : List Loc), Stand p l e room_1 s m #[(.int p0), (.int p1), (.long p2)] below meth c T L 0 0 ∧ T.heap = h0 ∧ Fr n0 L ∧ (∀ target, Steps p.tables e below (T.setTop (mkF m 78 #[.val (.int p0), .val (.int p1), .val (.long p2), .second, .val (.int 4), .val (.int gq5), .val (.int gq6), .val (.int gq7), .val (.int 0), .unset, .unset, .unset, .unset, .unset, .unset] [])) target → Steps p.tables e below (T0.setTop (mkF m 58 #[.val (.int p0), .val (.int p1), .val (.long p2), .second, .val (.int 4), .val (.int gq5), .val (.int gq6), .val (.int gq7), .unset, .unset, .unset, .unset, .unset, .unset, .unset] [])) target) := by
  refine ⟨T0, _, X0, e0, N0, fun target kt => ?_⟩
  show Steps p.tables e below (T0.setTop (mkF m 58 #[.val (.int p0), .val (.int p1), .val (.long p2), .second, .val (.int 4), .val (.int gq5), .val (.int gq6), .val (.int gq7), .unset, .unset, .unset, .unset, .unset, .unset, .unset] [])) _
  refine XS.iload X0.here hx rfl (hb hby at_58) rfl ?_
  refine XS.iconst X0.here hx rfl (hb hby at_60) ?_
  refine XS.icmpNo X0.here hx rfl (hb hby at_61) rfl (by decide) ?_
  refine XS.iloadN X0.here hx rfl (hb hby at_64) rfl ?_
  refine XS.bipush X0.here hx rfl (hb hby at_65) ?_
  show Steps p.tables e below (T0.setTop (mkF m 67 #[.val (.int p0), .val (.int p1), .val (.long p2), .second, .val (.int 4), .val (.int gq5), .val (.int gq6), .val (.int gq7), .unset, .unset, .unset, .unset, .unset, .unset, .unset] [(.int 8), (.int p1)])) _
  refine XS.iand X0.here hx rfl (hb hby at_67) rfl ?_
  refine XS.ifYes X0.here hx rfl (pc0 := 68) (pc' := 75) rfl (hb hby at_68) rfl ((if0 _ _).trans (teq (f1 : (p1 &&& (8 : Int32)) = (0 : Int32))).1) (by decide) (by decide) ?_
  refine XS.iconst X0.here hx rfl (hb hby at_75) ?_
  refine XS.istore X0.here hx rfl (hb hby at_76) rfl (l' := #[.val (.int p0), .val (.int p1), .val (.long p2), .second, .val (.int 4), .val (.int gq5), .val (.int gq6), .val (.int gq7), .val (.int 0), .unset, .unset, .unset, .unset, .unset, .unset]) rfl ?_
  show Steps p.tables e below (T0.setTop (mkF m 78 #[.val (.int p0), .val (.int p1), .val (.long p2), .second, .val (.int 4), .val (.int gq5), .val (.int gq6), .val (.int gq7), .val (.int 0), .unset, .unset, .unset, .unset, .unset, .unset] [])) _
  exact kt
abbrev R_1_1_4_12 : Room := { frames := 1, cells := 1, slots := 4, locals := 12 }
def Q1_201 (Z : State) (c0_a : Addr) (h0 : Heap) (n0 : Nat) (v : Option Value) (h : Heap) (L : List Loc) : Prop := ∃ (b198 : Addr) (kc199 : ClassId), v = none ∧ Fr n0 L ∧ Keep h0 h [c0_a] ∧ h0.size ≤ b198 ∧ F_0 Z h c0_a (.ref b198) ∧ Arv Z h b198 kc199 (.object "java/lang/Long") (4 : Int32) [.null, .null, .null, .null] .null ∧ Ovr Z kc199 "java/lang/Long"
set_option maxRecDepth 65536 in
set_option maxHeartbeats 40000000 in
theorem rm1_200 (l : Launch) (Z : State) (a0 : Array Value) (hw : ∀ d ∈ tables_1, d.before a0 Z = true) (ws : List Jvm.Cond) (c0_a : Addr) (h0 : Heap) (n0 : Nat) (Z0 : n0 ≤ h0.size) (f1 : F_0 Z h0 c0_a .null) (f2 : E_1 Z h0 c0_a) (f3 : n0 ≤ c0_a) :
    MetFree l M_0 (head1 (Jvm.Cond.code M_0 prog_14_method_1_code 2 none :: ws) R_1_1_4_12) (fun a U => a = #[(.ref c0_a), (.int 4)] ∧ Z.Warmed39 U.vm ∧ U.heap = h0) (fun _ _ _ _ _ => True) (fun _ U o U' => ∃ v L, o = .returned v ∧ Q1_201 Z c0_a h0 n0 v U'.heap L ∧ FrameEnd U o U' L R_1_1_4_12.cells R_1_1_4_12.slots) := by
  refine MetFree.of_bodySF (plainFor_of_name pn_hexwright_engine_SealedBids) hisR ?_
  intro p e s m args below meth c s₁ Bd hml0 hP hK
  obtain ⟨rfl, hZ, hh⟩ := hP
  have hx := Bd.exec
  have hby := Bd.bytes
  have hml : c.maxLocals = 2 := hml0
  have hown : s.vm.findClass "hexwright/engine/SealedBids" = some m.cls := findClass_of_methodNamed Bd.named
  have hnm := (name_of_methodNamed Bd.named Bd.method).1
  have X0 : Stand p l e R_1_1_4_12 s m #[(.ref c0_a), (.int 4)] below meth c s₁ [] 0 0 := Stand.of_body Bd
  have e0 : s₁.heap = h0 := by rw [← hh, Bd.state]; rfl
  have N0 := Fr.nil n0
  obtain ⟨T1, X1, e1, st1⟩ := initO X0 hx hZ hown (tw_7 hw) (tw_8 hw) (tw_9 hw) e0 (g := (mkF m 1 #[.val (.ref c0_a), .val (.int 4)] [(.ref c0_a)])) rfl (by rw [hml]; rfl) rfl (hb hby d1_1) (by decide) (W := 0) (by show 2 * 0 + _ ≤ _; exact Nat.le_of_eq rfl) (by decide)
  obtain ⟨T2, h2, k2, X2, e2, E2, A2, O2, st2⟩ := newR X1 hx hZ hown (tw_10 hw) (tw_11 hw) e1 (g := (mkF m 6 #[.val (.ref c0_a), .val (.int 4)] [(.int 4), (.ref c0_a)])) rfl (hb hby d1_6) rfl (by decide : ¬ ((4 : Int32) < (0 : Int32))) (cap := 4) (by decide : (4 : Int32).toNatClampNeg ≤ 4) (by decide) (by decide) (by decide)
  obtain ⟨b198, g2⟩ : ∃ z, z = h0.size := ⟨_, rfl⟩
  rw [← g2] at A2 st2
  obtain ⟨kc199, gk2⟩ : ∃ z, z = k2 := ⟨_, rfl⟩
  rw [← gk2] at A2 O2
  have sz_b198 : h0.size ≤ b198 := Nat.le_trans (Nat.le_refl _) (Nat.le_of_eq g2.symm)
  have g_b198 : n0 ≤ b198 := Nat.le_trans Z0 sz_b198
  have KK2 : Keep h0 h2 [c0_a] := (Keep.refl h0 [c0_a]).ext E2
  have V2 : Arv Z h2 b198 kc199 (.object "java/lang/Long") (4 : Int32) [.null, .null, .null, .null] .null := (Arv.new A2 (by decide)).pad (pad_rep [] .null 4)
  have u3 : F_0 Z h2 c0_a .null := Fld.ext E2 f1
  have u4 : E_1 Z h2 c0_a := Exa.ext E2 f2
  obtain ⟨T5, h5, X5, e5, W5, st5⟩ := putF X2 hx hZ hown (host := "") (Or.inl (tw_12 hw)) Via.refl e2 u3 u4 (Or.inr ⟨(tw_13 hw), rfl, hnm⟩) (tw_2 hw) (ty := (.array (.object "java/lang/Long"))) (by decide) rfl rfl (g := (mkF m 9 #[.val (.ref c0_a), .val (.int 4)] [(.ref b198), (.ref c0_a)])) rfl rfl (hb hby d1_9)
  have Fw5 : F_0 Z h5 c0_a (.ref b198) := Fld.same W5 u3
  have KK5 : Keep h0 h5 [c0_a] := KK2.wr W5 (Or.inl (List.mem_of_getElem? (i := 0) rfl))
  have N5 := Fr.snoc X5 N0 f3
  have ne6 : c0_a ≠ b198 := Nat.ne_of_lt (Nat.lt_of_lt_of_le (Exa.lt f2) (Nat.le_of_eq g2.symm))
  have u7 : Arv Z h5 b198 kc199 (.object "java/lang/Long") (4 : Int32) [.null, .null, .null, .null] .null := Arv.other V2 W5 (Ne.symm ne6)
  obtain ⟨fs, hr, hrun, hended, hW, hsame⟩ := X5.leave (v := none) (fun _ => rfl)
  refine ⟨_, _, castTop (ef1_RI m c0_a (4 : Int32)) ?_, hrun, hended, _, _, rfl, ?_, ⟨_, rfl⟩, hW, hsame.mono (by decide) (by decide)⟩
  · show Steps p.tables e below (s₁.setTop (mkF m 0 #[.val (.ref c0_a), .val (.int 4)] [])) _
    refine XS.aloadN X0.here hx rfl (hb hby d1_0) rfl rfl ?_
    show Steps p.tables e below (s₁.setTop (mkF m 1 #[.val (.ref c0_a), .val (.int 4)] [(.ref c0_a)])) _
    refine st1 _ ?_
    refine XS.aloadN X1.here hx rfl (hb hby d1_4) rfl rfl ?_
    refine XS.iloadN X1.here hx rfl (hb hby d1_5) rfl ?_
    show Steps p.tables e below (T1.setTop (mkF m 6 #[.val (.ref c0_a), .val (.int 4)] [(.int 4), (.ref c0_a)])) _
    refine st2 _ ?_
    show Steps p.tables e below (T2.setTop (mkF m 9 #[.val (.ref c0_a), .val (.int 4)] [(.ref b198), (.ref c0_a)])) _
    refine st5 _ ?_
    show Steps p.tables e below (T5.setTop (mkF m 12 #[.val (.ref c0_a), .val (.int 4)] [])) _
    exact X5.returnOut hx Bd.returns (hb hby d1_12) hr
  · show Q1_201 Z c0_a h0 n0 _ T5.heap _
    rw [e5]
    exact ⟨b198, kc199, rfl, N5, KK5, sz_b198, Fw5, u7, O2⟩
set_option maxRecDepth 65536 in
set_option maxHeartbeats 40000000 in
theorem sg90_204 {p : Program} {l : Launch} {e : Env} {s : State} {m : MethodId} {below : List Frame} {meth : Method} {c : Code} {T0 : State} {locs : List Loc} {Z : State} {a0 : Array Value} (p0 : Int32) (p1 : Int32) (p2 : Int64) (gq5 : Int32) (gq6 : Int32) (gq7 : Int32) (gq8 : Int32) (jam : Int64) (gq11 : Int64) {h0 : Heap} {n0 : Nat} (X0 : Stand p l e room_1 s m #[(.int p0), (.int p1), (.long p2)] below meth c T0 locs 0 0) (hx : p.tables.exec = Jvm.exec) (hZ : Z.Warmed39 s.vm) (hw : ∀ d ∈ tables_1, d.before a0 Z = true) (hby : c.code = code) (hml : c.maxLocals = 15) (hown : s.vm.findClass "hexwright/engine/SealedBidsHasBidPinLaw" = some m.cls) (e0 : T0.heap = h0) (N0 : Fr n0 locs) (Z0 : n0 ≤ h0.size) :
    ∃ (T : State) (h : Heap) (L : List Loc) (b197 : Addr) (b202 : Addr) (kc203 : ClassId), Stand p l e room_1 s m #[(.int p0), (.int p1), (.long p2)] below meth c T L 2 5 ∧ T.heap = h ∧ Fr n0 L ∧ Keep h0 h [] ∧ h0.size ≤ b197 ∧ h0.size ≤ b202 ∧ E_1 Z h b197 ∧ F_0 Z h b197 (.ref b202) ∧ Arv Z h b202 kc203 (.object "java/lang/Long") (4 : Int32) [.null, .null, .null, .null] .null ∧ Ovr Z kc203 "java/lang/Long" ∧ b197 ≠ b202 ∧ (∀ target, Steps p.tables e below (T.setTop (mkF m 101 #[.val (.int p0), .val (.int p1), .val (.long p2), .second, .val (.int 4), .val (.int gq5), .val (.int gq6), .val (.int gq7), .val (.int gq8), .val (.long jam), .second, .val (.long gq11), .second, .val (.ref b197), .unset] [])) target → Steps p.tables e below (T0.setTop (mkF m 90 #[.val (.int p0), .val (.int p1), .val (.long p2), .second, .val (.int 4), .val (.int gq5), .val (.int gq6), .val (.int gq7), .val (.int gq8), .val (.long jam), .second, .val (.long gq11), .second, .unset, .unset] [])) target) := by
  obtain ⟨T1, h1, X1, e1, E1, A1, D1, -, st1⟩ := newO X0 hx hZ hown (tw_1 hw) (tw_2 hw) (tw_3 hw) e0 (g := (mkF m 90 #[.val (.int p0), .val (.int p1), .val (.long p2), .second, .val (.int 4), .val (.int gq5), .val (.int gq6), .val (.int gq7), .val (.int gq8), .val (.long jam), .second, .val (.long gq11), .second, .unset, .unset] [])) rfl (hb hby at_90) (by decide) (by decide)
  obtain ⟨b197, g1⟩ : ∃ z, z = h0.size := ⟨_, rfl⟩
  rw [← g1] at A1 D1 st1
  have sz_b197 : h0.size ≤ b197 := Nat.le_trans (Nat.le_refl _) (Nat.le_of_eq g1.symm)
  have g_b197 : n0 ≤ b197 := Nat.le_trans Z0 sz_b197
  have KK1 : Keep h0 h1 [] := (Keep.refl h0 []).ext E1
  have F1_13 : F_0 Z h1 b197 .null := D1 (Or.inr (tw_13 hw)) (ty := (.array (.object "java/lang/Long"))) (by decide)
  -- pc 96: hexwright/engine/SealedBids.<init>
  obtain ⟨_, _, ⟨T2, L2, k2, n2⟩, -, X2, ⟨Lc2, hQ2, l2, y2, z2⟩, st2⟩ := X1.specialBack hx (y := M_0) rfl hown (mvT hZ (tw_4 hw)) (mvT hZ (tw_5 hw)) (mvT hZ (tw_6 hw)) (by decide) (backOf (W := 1) (rm1_200 l Z a0 hw [] b197 h1 n0 (Nat.le_trans Z0 KK1.1) F1_13 A1 g_b197) hZ (tw_6 hw) (tw_3 hw) (by decide) (by decide)) (g := (mkF m 96 #[.val (.int p0), .val (.int p1), .val (.long p2), .second, .val (.int 4), .val (.int gq5), .val (.int gq6), .val (.int gq7), .val (.int gq8), .val (.long jam), .second, .val (.long gq11), .second, .unset, .unset] [(.int 4), (.ref b197), (.ref b197)])) rfl (by rw [hml]; rfl) (Steps.refl _) (a := b197) (argsL := [(.int 4)]) (rest := [(.ref b197)]) (lenOf pd_0 rfl) rfl (by show 2 * 0 + _ ≤ _; exact Nat.le_of_eq rfl) (hb hby at_96) (fun _ _ => ⟨rfl, e1, (by decide : 1 + 1 ≤ _), (by decide : 1 + 4 ≤ _)⟩)
  dsimp only [Pt.U, Pt.locs, Pt.cells, Pt.slots] at X2 l2 y2 z2 st2 hQ2
  subst l2 y2 z2
  obtain ⟨b202, kc203, rfl, Nq2, K2, le_b202, o2_0, o2_1, o2_2⟩ := hQ2
  have N2 := Fr.app N0 Nq2
  have sz_b202 : h0.size ≤ b202 := Nat.le_trans KK1.1 le_b202
  have g_b202 : n0 ≤ b202 := Nat.le_trans Z0 sz_b202
  have KK2 : Keep h0 T2.heap [] := KK1.trans K2 (fun x hx => (List.mem_cons.mp hx).elim (fun q => q ▸ (Or.inr sz_b197)) (fun hx => nomatch hx))
  have u3 : E_1 Z T2.heap b197 := Exa.keep A1 K2
  have ne4 : b197 ≠ b202 := Nat.ne_of_lt (Nat.lt_of_lt_of_le (Exa.lt A1) le_b202)
  refine ⟨T2, _, _, b197, b202, kc203, X2, rfl, N2, KK2, sz_b197, sz_b202, u3, o2_0, o2_1, o2_2, ne4, fun target kt => ?_⟩
  show Steps p.tables e below (T0.setTop (mkF m 90 #[.val (.int p0), .val (.int p1), .val (.long p2), .second, .val (.int 4), .val (.int gq5), .val (.int gq6), .val (.int gq7), .val (.int gq8), .val (.long jam), .second, .val (.long gq11), .second, .unset, .unset] [])) _
  refine st1 _ ?_
  refine XS.dup X1.here hx rfl (hb hby at_93) rfl rfl ?_
  refine XS.iload X1.here hx rfl (hb hby at_94) rfl ?_
  show Steps p.tables e below (T1.setTop (mkF m 96 #[.val (.int p0), .val (.int p1), .val (.long p2), .second, .val (.int 4), .val (.int gq5), .val (.int gq6), .val (.int gq7), .val (.int gq8), .val (.long jam), .second, .val (.long gq11), .second, .unset, .unset] [(.int 4), (.ref b197), (.ref b197)])) _
  refine st2.trans ?_
  refine XS.astore X2.here hx rfl (hb hby at_99) rfl rfl (l' := #[.val (.int p0), .val (.int p1), .val (.long p2), .second, .val (.int 4), .val (.int gq5), .val (.int gq6), .val (.int gq7), .val (.int gq8), .val (.long jam), .second, .val (.long gq11), .second, .val (.ref b197), .unset]) rfl ?_
  show Steps p.tables e below (T2.setTop (mkF m 101 #[.val (.int p0), .val (.int p1), .val (.long p2), .second, .val (.int 4), .val (.int gq5), .val (.int gq6), .val (.int gq7), .val (.int gq8), .val (.long jam), .second, .val (.long gq11), .second, .val (.ref b197), .unset] [])) _
  exact kt
set_option maxRecDepth 65536 in
set_option maxHeartbeats 40000000 in
theorem sg101_208 {p : Program} {l : Launch} {e : Env} {s : State} {m : MethodId} {below : List Frame} {meth : Method} {c : Code} {T0 : State} {locs : List Loc} {Z : State} {a0 : Array Value} (p0 : Int32) (p1 : Int32) (p2 : Int64) (gq4 : Int32) (gq6 : Int32) (gq7 : Int32) (gq8 : Int32) (jam : Int64) (c0_a : Addr) {h0 : Heap} {n0 : Nat} (X0 : Stand p l e room_1 s m #[(.int p0), (.int p1), (.long p2)] below meth c T0 locs 2 5) (hx : p.tables.exec = Jvm.exec) (hZ : Z.Warmed39 s.vm) (hw : ∀ d ∈ tables_1, d.before a0 Z = true) (hby : c.code = code) (hml : c.maxLocals = 15) (hown : s.vm.findClass "hexwright/engine/SealedBidsHasBidPinLaw" = some m.cls) (e0 : T0.heap = h0) (N0 : Fr n0 locs) (Z0 : n0 ≤ h0.size) :
    ∃ (T : State) (L : List Loc), Stand p l e room_1 s m #[(.int p0), (.int p1), (.long p2)] below meth c T L 3 6 ∧ T.heap = h0 ∧ Fr n0 L ∧ (∀ target, Steps p.tables e below (T.setTop (mkF m 116 #[.val (.int p0), .val (.int p1), .val (.long p2), .second, .val (.int gq4), .val (.int 0), .val (.int gq6), .val (.int gq7), .val (.int gq8), .val (.long jam), .second, .val (.long 9223372036854775807), .second, .val (.ref c0_a), .unset] [])) target → Steps p.tables e below (T0.setTop (mkF m 101 #[.val (.int p0), .val (.int p1), .val (.long p2), .second, .val (.int gq4), .val (.int 0), .val (.int gq6), .val (.int gq7), .val (.int gq8), .val (.long jam), .second, .val (.long 9223372036854775807), .second, .val (.ref c0_a), .unset] [])) target) := by
  refine ⟨T0, _, (X0.more (by decide) (by decide)), e0, N0, fun target kt => ?_⟩
  show Steps p.tables e below (T0.setTop (mkF m 101 #[.val (.int p0), .val (.int p1), .val (.long p2), .second, .val (.int gq4), .val (.int 0), .val (.int gq6), .val (.int gq7), .val (.int gq8), .val (.long jam), .second, .val (.long 9223372036854775807), .second, .val (.ref c0_a), .unset] [])) _
  refine XS.iload X0.here hx rfl (hb hby at_101) rfl ?_
  refine XS.ifYes X0.here hx rfl (pc0 := 103) (pc' := 116) rfl (hb hby at_103) rfl (by decide) (by decide) (by decide) ?_
  show Steps p.tables e below (T0.setTop (mkF m 116 #[.val (.int p0), .val (.int p1), .val (.long p2), .second, .val (.int gq4), .val (.int 0), .val (.int gq6), .val (.int gq7), .val (.int gq8), .val (.long jam), .second, .val (.long 9223372036854775807), .second, .val (.ref c0_a), .unset] [])) _
  exact kt
set_option maxRecDepth 65536 in
set_option maxHeartbeats 40000000 in
theorem sg116_209 {p : Program} {l : Launch} {e : Env} {s : State} {m : MethodId} {below : List Frame} {meth : Method} {c : Code} {T0 : State} {locs : List Loc} {Z : State} {a0 : Array Value} (p0 : Int32) (p1 : Int32) (p2 : Int64) (gq4 : Int32) (gq5 : Int32) (gq7 : Int32) (gq8 : Int32) (jam : Int64) (c0_a : Addr) {h0 : Heap} {n0 : Nat} (X0 : Stand p l e room_1 s m #[(.int p0), (.int p1), (.long p2)] below meth c T0 locs 3 6) (hx : p.tables.exec = Jvm.exec) (hZ : Z.Warmed39 s.vm) (hw : ∀ d ∈ tables_1, d.before a0 Z = true) (hby : c.code = code) (hml : c.maxLocals = 15) (hown : s.vm.findClass "hexwright/engine/SealedBidsHasBidPinLaw" = some m.cls) (e0 : T0.heap = h0) (N0 : Fr n0 locs) (Z0 : n0 ≤ h0.size) :
    ∃ (T : State) (L : List Loc), Stand p l e room_1 s m #[(.int p0), (.int p1), (.long p2)] below meth c T L 4 7 ∧ T.heap = h0 ∧ Fr n0 L ∧ (∀ target, Steps p.tables e below (T.setTop (mkF m 131 #[.val (.int p0), .val (.int p1), .val (.long p2), .second, .val (.int gq4), .val (.int gq5), .val (.int 0), .val (.int gq7), .val (.int gq8), .val (.long jam), .second, .val (.long 9223372036854775807), .second, .val (.ref c0_a), .unset] [])) target → Steps p.tables e below (T0.setTop (mkF m 116 #[.val (.int p0), .val (.int p1), .val (.long p2), .second, .val (.int gq4), .val (.int gq5), .val (.int 0), .val (.int gq7), .val (.int gq8), .val (.long jam), .second, .val (.long 9223372036854775807), .second, .val (.ref c0_a), .unset] [])) target) := by
  refine ⟨T0, _, (X0.more (by decide) (by decide)), e0, N0, fun target kt => ?_⟩
  show Steps p.tables e below (T0.setTop (mkF m 116 #[.val (.int p0), .val (.int p1), .val (.long p2), .second, .val (.int gq4), .val (.int gq5), .val (.int 0), .val (.int gq7), .val (.int gq8), .val (.long jam), .second, .val (.long 9223372036854775807), .second, .val (.ref c0_a), .unset] [])) _
  refine XS.iload X0.here hx rfl (hb hby at_116) rfl ?_
  refine XS.ifYes X0.here hx rfl (pc0 := 118) (pc' := 131) rfl (hb hby at_118) rfl (by decide) (by decide) (by decide) ?_
  show Steps p.tables e below (T0.setTop (mkF m 131 #[.val (.int p0), .val (.int p1), .val (.long p2), .second, .val (.int gq4), .val (.int gq5), .val (.int 0), .val (.int gq7), .val (.int gq8), .val (.long jam), .second, .val (.long 9223372036854775807), .second, .val (.ref c0_a), .unset] [])) _
  exact kt
set_option maxRecDepth 65536 in
set_option maxHeartbeats 40000000 in
theorem sg131_210 {p : Program} {l : Launch} {e : Env} {s : State} {m : MethodId} {below : List Frame} {meth : Method} {c : Code} {T0 : State} {locs : List Loc} {Z : State} {a0 : Array Value} (p0 : Int32) (p1 : Int32) (p2 : Int64) (gq4 : Int32) (gq5 : Int32) (gq6 : Int32) (gq8 : Int32) (jam : Int64) (c0_a : Addr) {h0 : Heap} {n0 : Nat} (X0 : Stand p l e room_1 s m #[(.int p0), (.int p1), (.long p2)] below meth c T0 locs 4 7) (hx : p.tables.exec = Jvm.exec) (hZ : Z.Warmed39 s.vm) (hw : ∀ d ∈ tables_1, d.before a0 Z = true) (hby : c.code = code) (hml : c.maxLocals = 15) (hown : s.vm.findClass "hexwright/engine/SealedBidsHasBidPinLaw" = some m.cls) (e0 : T0.heap = h0) (N0 : Fr n0 locs) (Z0 : n0 ≤ h0.size) :
    ∃ (T : State) (L : List Loc), Stand p l e room_1 s m #[(.int p0), (.int p1), (.long p2)] below meth c T L 5 8 ∧ T.heap = h0 ∧ Fr n0 L ∧ (∀ target, Steps p.tables e below (T.setTop (mkF m 146 #[.val (.int p0), .val (.int p1), .val (.long p2), .second, .val (.int gq4), .val (.int gq5), .val (.int gq6), .val (.int 0), .val (.int gq8), .val (.long jam), .second, .val (.long 9223372036854775807), .second, .val (.ref c0_a), .unset] [])) target → Steps p.tables e below (T0.setTop (mkF m 131 #[.val (.int p0), .val (.int p1), .val (.long p2), .second, .val (.int gq4), .val (.int gq5), .val (.int gq6), .val (.int 0), .val (.int gq8), .val (.long jam), .second, .val (.long 9223372036854775807), .second, .val (.ref c0_a), .unset] [])) target) := by
  refine ⟨T0, _, (X0.more (by decide) (by decide)), e0, N0, fun target kt => ?_⟩
  show Steps p.tables e below (T0.setTop (mkF m 131 #[.val (.int p0), .val (.int p1), .val (.long p2), .second, .val (.int gq4), .val (.int gq5), .val (.int gq6), .val (.int 0), .val (.int gq8), .val (.long jam), .second, .val (.long 9223372036854775807), .second, .val (.ref c0_a), .unset] [])) _
  refine XS.iload X0.here hx rfl (hb hby at_131) rfl ?_
  refine XS.ifYes X0.here hx rfl (pc0 := 133) (pc' := 146) rfl (hb hby at_133) rfl (by decide) (by decide) (by decide) ?_
  show Steps p.tables e below (T0.setTop (mkF m 146 #[.val (.int p0), .val (.int p1), .val (.long p2), .second, .val (.int gq4), .val (.int gq5), .val (.int gq6), .val (.int 0), .val (.int gq8), .val (.long jam), .second, .val (.long 9223372036854775807), .second, .val (.ref c0_a), .unset] [])) _
  exact kt
set_option maxRecDepth 65536 in
set_option maxHeartbeats 40000000 in
theorem sg146_211 {p : Program} {l : Launch} {e : Env} {s : State} {m : MethodId} {below : List Frame} {meth : Method} {c : Code} {T0 : State} {locs : List Loc} {Z : State} {a0 : Array Value} (p0 : Int32) (p1 : Int32) (p2 : Int64) (gq4 : Int32) (gq5 : Int32) (gq6 : Int32) (gq7 : Int32) (jam : Int64) (c0_a : Addr) {h0 : Heap} {n0 : Nat} (X0 : Stand p l e room_1 s m #[(.int p0), (.int p1), (.long p2)] below meth c T0 locs 5 8) (hx : p.tables.exec = Jvm.exec) (hZ : Z.Warmed39 s.vm) (hw : ∀ d ∈ tables_1, d.before a0 Z = true) (hby : c.code = code) (hml : c.maxLocals = 15) (hown : s.vm.findClass "hexwright/engine/SealedBidsHasBidPinLaw" = some m.cls) (e0 : T0.heap = h0) (N0 : Fr n0 locs) (Z0 : n0 ≤ h0.size) :
    ∃ (T : State) (L : List Loc), Stand p l e room_1 s m #[(.int p0), (.int p1), (.long p2)] below meth c T L 6 9 ∧ T.heap = h0 ∧ Fr n0 L ∧ (∀ target, Steps p.tables e below (T.setTop (mkF m 161 #[.val (.int p0), .val (.int p1), .val (.long p2), .second, .val (.int gq4), .val (.int gq5), .val (.int gq6), .val (.int gq7), .val (.int 0), .val (.long jam), .second, .val (.long 9223372036854775807), .second, .val (.ref c0_a), .unset] [])) target → Steps p.tables e below (T0.setTop (mkF m 146 #[.val (.int p0), .val (.int p1), .val (.long p2), .second, .val (.int gq4), .val (.int gq5), .val (.int gq6), .val (.int gq7), .val (.int 0), .val (.long jam), .second, .val (.long 9223372036854775807), .second, .val (.ref c0_a), .unset] [])) target) := by
  refine ⟨T0, _, (X0.more (by decide) (by decide)), e0, N0, fun target kt => ?_⟩
  show Steps p.tables e below (T0.setTop (mkF m 146 #[.val (.int p0), .val (.int p1), .val (.long p2), .second, .val (.int gq4), .val (.int gq5), .val (.int gq6), .val (.int gq7), .val (.int 0), .val (.long jam), .second, .val (.long 9223372036854775807), .second, .val (.ref c0_a), .unset] [])) _
  refine XS.iload X0.here hx rfl (hb hby at_146) rfl ?_
  refine XS.ifYes X0.here hx rfl (pc0 := 148) (pc' := 161) rfl (hb hby at_148) rfl (by decide) (by decide) (by decide) ?_
  show Steps p.tables e below (T0.setTop (mkF m 161 #[.val (.int p0), .val (.int p1), .val (.long p2), .second, .val (.int gq4), .val (.int gq5), .val (.int gq6), .val (.int gq7), .val (.int 0), .val (.long jam), .second, .val (.long 9223372036854775807), .second, .val (.ref c0_a), .unset] [])) _
  exact kt
set_option maxRecDepth 65536 in
set_option maxHeartbeats 40000000 in
theorem rm5_212 (l : Launch) (Z : State) (a0 : Array Value) (hw : ∀ d ∈ tables_1, d.before a0 Z = true) (ws : List Jvm.Cond) (c0_a : Addr) (c1_a : Addr) (c2_k : ClassId) (gx1 : Value) (gx2 : Value) (gx3 : Value) (h0 : Heap) (n0 : Nat) (Z0 : n0 ≤ h0.size) (f1 : F_0 Z h0 c0_a (.ref c1_a)) (f2 : Arv Z h0 c1_a c2_k (.object "java/lang/Long") (4 : Int32) [.null, gx1, gx2, gx3] .null) :
    MetFree l M_1 (head1 (Jvm.Cond.code M_1 prog_14_method_4_code 2 (some .boolean) :: ws) R_0_0_0_0) (fun a U => a = #[(.ref c0_a), (.int 1)] ∧ Z.Warmed39 U.vm ∧ U.heap = h0) (fun _ _ _ _ _ => True) (fun _ U o U' => ∃ v L, o = .returned v ∧ QP (some (.int 0)) h0 n0 v U'.heap L ∧ FrameEnd U o U' L R_0_0_0_0.cells R_0_0_0_0.slots) := by
  refine MetFree.of_bodySF (plainFor_of_name pn_hexwright_engine_SealedBids) hisR ?_
  intro p e s m args below meth c s₁ Bd hml0 hP hK
  obtain ⟨rfl, hZ, hh⟩ := hP
  have hx := Bd.exec
  have hby := Bd.bytes
  have hml : c.maxLocals = 2 := hml0
  have hown : s.vm.findClass "hexwright/engine/SealedBids" = some m.cls := findClass_of_methodNamed Bd.named
  have hnm := (name_of_methodNamed Bd.named Bd.method).1
  have X0 : Stand p l e R_0_0_0_0 s m #[(.ref c0_a), (.int 1)] below meth c s₁ [] 0 0 := Stand.of_body Bd
  have e0 : s₁.heap = h0 := by rw [← hh, Bd.state]; rfl
  have N0 := Fr.nil n0
  obtain ⟨T1, X1, e1, st1⟩ := getF X0 hx hZ hown (host := "") (Or.inl (tw_12 hw)) Via.refl e0 f1 (g := (mkF m 1 #[.val (.ref c0_a), .val (.int 1)] [(.ref c0_a)])) rfl rfl (hb hby d5_1)
  have va2 := f2
  obtain ⟨cl2, Ar2, -, S2, -, H2, -⟩ := va2
  have hin2 : ¬ ((0 : Int32) < 0 ∨ cl2.slots.size ≤ ((0 : Int32)).toNatClampNeg) := inb_of S2 ⟨by decide, by decide⟩
  have hat2 : cl2.slots[((0 : Int32)).toNatClampNeg]? = some .null := H2 _ (Nat.lt_of_not_le fun y => hin2 (Or.inr y))
  obtain ⟨fs, hr, hrun, hended, hW, hsame⟩ := X1.leave (v := (some (.int 0))) (fun h => by rw [Bd.returns] at h; cases h)
  refine ⟨_, _, castTop (ef5_RI m c0_a (1 : Int32)) ?_, hrun, hended, _, _, rfl, ?_, ⟨_, rfl⟩, hW, hsame.mono (by decide) (by decide)⟩
  · show Steps p.tables e below (s₁.setTop (mkF m 0 #[.val (.ref c0_a), .val (.int 1)] [])) _
    refine XS.aloadN X0.here hx rfl (hb hby d5_0) rfl rfl ?_
    show Steps p.tables e below (s₁.setTop (mkF m 1 #[.val (.ref c0_a), .val (.int 1)] [(.ref c0_a)])) _
    refine st1 _ ?_
    refine XS.iloadN X1.here hx rfl (hb hby d5_4) rfl ?_
    refine XS.iconst X1.here hx rfl (hb hby d5_5) ?_
    show Steps p.tables e below (T1.setTop (mkF m 6 #[.val (.ref c0_a), .val (.int 1)] [(.int 1), (.int 1), (.ref c1_a)])) _
    refine XS.isub X1.here hx rfl (hb hby d5_6) rfl ?_
    show Steps p.tables e below (T1.setTop (mkF m 7 #[.val (.ref c0_a), .val (.int 1)] [(.int ((1 : Int32) - (1 : Int32))), (.ref c1_a)])) _
    rw [show ((1 : Int32) - (1 : Int32)) = (0 : Int32) from by decide]
    show Steps p.tables e below (T1.setTop (mkF m 7 #[.val (.ref c0_a), .val (.int 1)] [(.int 0), (.ref c1_a)])) _
    refine X1.aaload hx (j := (0 : Int32)) (v := .null) (by rw [e1]; exact Ar2.1) (State.isArrayOf_alike hZ.alike Ar2.2.1) rfl Ar2.2.2 hin2 hat2 (g := (mkF m 7 #[.val (.ref c0_a), .val (.int 1)] [(.int 0), (.ref c1_a)])) rfl rfl (hb hby d5_7) _ ?_
    refine XS.ifnullYes X1.here hx rfl (pc0 := 8) (pc' := 15) rfl (hb hby d5_8) rfl (by decide) (by decide) ?_
    refine XS.iconst X1.here hx rfl (hb hby d5_15) ?_
    show Steps p.tables e below (T1.setTop (mkF m 16 #[.val (.ref c0_a), .val (.int 1)] [(.int 0)])) _
    exact retN X1 hx (t := .boolean) Bd.returns (by simp) (hb hby d5_16) hr
  · show QP (some (.int 0)) h0 n0 _ T1.heap _
    rw [e1]
    exact ⟨rfl, N0, rfl⟩
set_option maxRecDepth 65536 in
set_option maxHeartbeats 40000000 in
theorem sg161_213 {p : Program} {l : Launch} {e : Env} {s : State} {m : MethodId} {below : List Frame} {meth : Method} {c : Code} {T0 : State} {locs : List Loc} {Z : State} {a0 : Array Value} (p0 : Int32) (p1 : Int32) (p2 : Int64) (gq4 : Int32) (gq6 : Int32) (gq7 : Int32) (gq8 : Int32) (jam : Int64) (gq11 : Int64) (c0_a : Addr) (c1_a : Addr) (c2_k : ClassId) (gx1 : Value) (gx2 : Value) (gx3 : Value) {h0 : Heap} {n0 : Nat} (X0 : Stand p l e room_1 s m #[(.int p0), (.int p1), (.long p2)] below meth c T0 locs 6 9) (hx : p.tables.exec = Jvm.exec) (hZ : Z.Warmed39 s.vm) (hw : ∀ d ∈ tables_1, d.before a0 Z = true) (hby : c.code = code) (hml : c.maxLocals = 15) (hown : s.vm.findClass "hexwright/engine/SealedBidsHasBidPinLaw" = some m.cls) (e0 : T0.heap = h0) (N0 : Fr n0 locs) (Z0 : n0 ≤ h0.size) (f1 : F_0 Z h0 c0_a (.ref c1_a)) (f2 : Arv Z h0 c1_a c2_k (.object "java/lang/Long") (4 : Int32) [.null, gx1, gx2, gx3] .null) (f3 : E_1 Z h0 c0_a) :
    ∃ (T : State) (L : List Loc), Stand p l e room_1 s m #[(.int p0), (.int p1), (.long p2)] below meth c T L 6 9 ∧ T.heap = h0 ∧ Fr n0 L ∧ (∀ target, Steps p.tables e below (T.setTop (mkF m 179 #[.val (.int p0), .val (.int p1), .val (.long p2), .second, .val (.int gq4), .val (.int 0), .val (.int gq6), .val (.int gq7), .val (.int gq8), .val (.long jam), .second, .val (.long gq11), .second, .val (.ref c0_a), .val (.int 1)] [])) target → Steps p.tables e below (T0.setTop (mkF m 161 #[.val (.int p0), .val (.int p1), .val (.long p2), .second, .val (.int gq4), .val (.int 0), .val (.int gq6), .val (.int gq7), .val (.int gq8), .val (.long jam), .second, .val (.long gq11), .second, .val (.ref c0_a), .unset] [])) target) := by
  -- pc 164: hexwright/engine/SealedBids.hasBid
  obtain ⟨cq1, kq1, q1a, q1b, q1c⟩ := isOf hZ e0 f3
  obtain ⟨_, _, ⟨T1, L1, k1, n1⟩, -, X1, ⟨Lc1, hQ1, l1, y1, z1⟩, st1⟩ := X0.virtualBack hx (y := M_1) (z := M_1) hown (mvT hZ (tw_28 hw)) (mvT hZ (tw_29 hw)) (notFace_of_selects (args := #[]) (mvT hZ (tw_31 hw))) (mvT hZ (tw_31 hw)) (mvT hZ (tw_30 hw)) (by decide) (backOf (W := 0) (rm5_212 l Z a0 hw [] c0_a c1_a c2_k gx1 gx2 gx3 h0 n0 Z0 f1 f2) hZ (tw_32 hw) (tw_3 hw) (by decide) (by decide)) q1a q1c (g := (mkF m 164 #[.val (.int p0), .val (.int p1), .val (.long p2), .second, .val (.int gq4), .val (.int 0), .val (.int gq6), .val (.int gq7), .val (.int gq8), .val (.long jam), .second, .val (.long gq11), .second, .val (.ref c0_a), .unset] [(.int 1), (.ref c0_a)])) rfl (by rw [hml]; rfl) (Steps.refl _) (argsL := [(.int 1)]) (rest := []) (lenOf pd_1 rfl) rfl (by show 2 * 0 + _ ≤ _; exact Nat.le_of_eq rfl) (hb hby at_164) (fun _ _ => ⟨rfl, e0, (by decide : 6 + 0 ≤ _), (by decide : 9 + 0 ≤ _)⟩)
  dsimp only [Pt.U, Pt.locs, Pt.cells, Pt.slots] at X1 l1 y1 z1 st1 hQ1
  subst l1 y1 z1
  obtain ⟨rfl, Nq1, e1⟩ := hQ1
  have N1 := Fr.app N0 Nq1
  refine ⟨T1, _, X1, e1, N1, fun target kt => ?_⟩
  show Steps p.tables e below (T0.setTop (mkF m 161 #[.val (.int p0), .val (.int p1), .val (.long p2), .second, .val (.int gq4), .val (.int 0), .val (.int gq6), .val (.int gq7), .val (.int gq8), .val (.long jam), .second, .val (.long gq11), .second, .val (.ref c0_a), .unset] [])) _
  refine XS.aload X0.here hx rfl (hb hby at_161) rfl rfl ?_
  refine XS.iconst X0.here hx rfl (hb hby at_163) ?_
  show Steps p.tables e below (T0.setTop (mkF m 164 #[.val (.int p0), .val (.int p1), .val (.long p2), .second, .val (.int gq4), .val (.int 0), .val (.int gq6), .val (.int gq7), .val (.int gq8), .val (.long jam), .second, .val (.long gq11), .second, .val (.ref c0_a), .unset] [(.int 1), (.ref c0_a)])) _
  refine st1.trans ?_
  refine XS.iload X1.here hx rfl (hb hby at_167) rfl ?_
  refine XS.icmpNo X1.here hx rfl (hb hby at_169) rfl (by decide) ?_
  refine XS.iconst X1.here hx rfl (hb hby at_172) ?_
  refine XS.goto X1.here hx rfl (pc0 := 173) (pc' := 177) rfl (hb hby at_173) (by decide) (by decide) ?_
  show Steps p.tables e below (T1.setTop (mkF m 177 #[.val (.int p0), .val (.int p1), .val (.long p2), .second, .val (.int gq4), .val (.int 0), .val (.int gq6), .val (.int gq7), .val (.int gq8), .val (.long jam), .second, .val (.long gq11), .second, .val (.ref c0_a), .unset] [(.int 1)])) _
  refine XS.istore X1.here hx rfl (hb hby at_177) rfl (l' := #[.val (.int p0), .val (.int p1), .val (.long p2), .second, .val (.int gq4), .val (.int 0), .val (.int gq6), .val (.int gq7), .val (.int gq8), .val (.long jam), .second, .val (.long gq11), .second, .val (.ref c0_a), .val (.int 1)]) rfl ?_
  show Steps p.tables e below (T1.setTop (mkF m 179 #[.val (.int p0), .val (.int p1), .val (.long p2), .second, .val (.int gq4), .val (.int 0), .val (.int gq6), .val (.int gq7), .val (.int gq8), .val (.long jam), .second, .val (.long gq11), .second, .val (.ref c0_a), .val (.int 1)] [])) _
  exact kt
set_option maxRecDepth 65536 in
set_option maxHeartbeats 40000000 in
theorem rm5_214 (l : Launch) (Z : State) (a0 : Array Value) (hw : ∀ d ∈ tables_1, d.before a0 Z = true) (ws : List Jvm.Cond) (c0_a : Addr) (c1_a : Addr) (c2_k : ClassId) (gx0 : Value) (gx2 : Value) (gx3 : Value) (h0 : Heap) (n0 : Nat) (Z0 : n0 ≤ h0.size) (f1 : F_0 Z h0 c0_a (.ref c1_a)) (f2 : Arv Z h0 c1_a c2_k (.object "java/lang/Long") (4 : Int32) [gx0, .null, gx2, gx3] .null) :
    MetFree l M_1 (head1 (Jvm.Cond.code M_1 prog_14_method_4_code 2 (some .boolean) :: ws) R_0_0_0_0) (fun a U => a = #[(.ref c0_a), (.int 2)] ∧ Z.Warmed39 U.vm ∧ U.heap = h0) (fun _ _ _ _ _ => True) (fun _ U o U' => ∃ v L, o = .returned v ∧ QP (some (.int 0)) h0 n0 v U'.heap L ∧ FrameEnd U o U' L R_0_0_0_0.cells R_0_0_0_0.slots) := by
  refine MetFree.of_bodySF (plainFor_of_name pn_hexwright_engine_SealedBids) hisR ?_
  intro p e s m args below meth c s₁ Bd hml0 hP hK
  obtain ⟨rfl, hZ, hh⟩ := hP
  have hx := Bd.exec
  have hby := Bd.bytes
  have hml : c.maxLocals = 2 := hml0
  have hown : s.vm.findClass "hexwright/engine/SealedBids" = some m.cls := findClass_of_methodNamed Bd.named
  have hnm := (name_of_methodNamed Bd.named Bd.method).1
  have X0 : Stand p l e R_0_0_0_0 s m #[(.ref c0_a), (.int 2)] below meth c s₁ [] 0 0 := Stand.of_body Bd
  have e0 : s₁.heap = h0 := by rw [← hh, Bd.state]; rfl
  have N0 := Fr.nil n0
  obtain ⟨T1, X1, e1, st1⟩ := getF X0 hx hZ hown (host := "") (Or.inl (tw_12 hw)) Via.refl e0 f1 (g := (mkF m 1 #[.val (.ref c0_a), .val (.int 2)] [(.ref c0_a)])) rfl rfl (hb hby d5_1)
  have va2 := f2
  obtain ⟨cl2, Ar2, -, S2, -, H2, -⟩ := va2
  have hin2 : ¬ ((1 : Int32) < 0 ∨ cl2.slots.size ≤ ((1 : Int32)).toNatClampNeg) := inb_of S2 ⟨by decide, by decide⟩
  have hat2 : cl2.slots[((1 : Int32)).toNatClampNeg]? = some .null := H2 _ (Nat.lt_of_not_le fun y => hin2 (Or.inr y))
  obtain ⟨fs, hr, hrun, hended, hW, hsame⟩ := X1.leave (v := (some (.int 0))) (fun h => by rw [Bd.returns] at h; cases h)
  refine ⟨_, _, castTop (ef5_RI m c0_a (2 : Int32)) ?_, hrun, hended, _, _, rfl, ?_, ⟨_, rfl⟩, hW, hsame.mono (by decide) (by decide)⟩
  · show Steps p.tables e below (s₁.setTop (mkF m 0 #[.val (.ref c0_a), .val (.int 2)] [])) _
    refine XS.aloadN X0.here hx rfl (hb hby d5_0) rfl rfl ?_
    show Steps p.tables e below (s₁.setTop (mkF m 1 #[.val (.ref c0_a), .val (.int 2)] [(.ref c0_a)])) _
    refine st1 _ ?_
    refine XS.iloadN X1.here hx rfl (hb hby d5_4) rfl ?_
    refine XS.iconst X1.here hx rfl (hb hby d5_5) ?_
    show Steps p.tables e below (T1.setTop (mkF m 6 #[.val (.ref c0_a), .val (.int 2)] [(.int 1), (.int 2), (.ref c1_a)])) _
    refine XS.isub X1.here hx rfl (hb hby d5_6) rfl ?_
    show Steps p.tables e below (T1.setTop (mkF m 7 #[.val (.ref c0_a), .val (.int 2)] [(.int ((2 : Int32) - (1 : Int32))), (.ref c1_a)])) _
    rw [show ((2 : Int32) - (1 : Int32)) = (1 : Int32) from by decide]
    show Steps p.tables e below (T1.setTop (mkF m 7 #[.val (.ref c0_a), .val (.int 2)] [(.int 1), (.ref c1_a)])) _
    refine X1.aaload hx (j := (1 : Int32)) (v := .null) (by rw [e1]; exact Ar2.1) (State.isArrayOf_alike hZ.alike Ar2.2.1) rfl Ar2.2.2 hin2 hat2 (g := (mkF m 7 #[.val (.ref c0_a), .val (.int 2)] [(.int 1), (.ref c1_a)])) rfl rfl (hb hby d5_7) _ ?_
    refine XS.ifnullYes X1.here hx rfl (pc0 := 8) (pc' := 15) rfl (hb hby d5_8) rfl (by decide) (by decide) ?_
    refine XS.iconst X1.here hx rfl (hb hby d5_15) ?_
    show Steps p.tables e below (T1.setTop (mkF m 16 #[.val (.ref c0_a), .val (.int 2)] [(.int 0)])) _
    exact retN X1 hx (t := .boolean) Bd.returns (by simp) (hb hby d5_16) hr
  · show QP (some (.int 0)) h0 n0 _ T1.heap _
    rw [e1]
    exact ⟨rfl, N0, rfl⟩
set_option maxRecDepth 65536 in
set_option maxHeartbeats 40000000 in
theorem sg179_215 {p : Program} {l : Launch} {e : Env} {s : State} {m : MethodId} {below : List Frame} {meth : Method} {c : Code} {T0 : State} {locs : List Loc} {Z : State} {a0 : Array Value} (p0 : Int32) (p1 : Int32) (p2 : Int64) (gq5 : Int32) (gq7 : Int32) (gq8 : Int32) (jam : Int64) (gq11 : Int64) (c0_a : Addr) (c1_a : Addr) (c2_k : ClassId) (gx0 : Value) (gx2 : Value) (gx3 : Value) {h0 : Heap} {n0 : Nat} (X0 : Stand p l e room_1 s m #[(.int p0), (.int p1), (.long p2)] below meth c T0 locs 6 9) (hx : p.tables.exec = Jvm.exec) (hZ : Z.Warmed39 s.vm) (hw : ∀ d ∈ tables_1, d.before a0 Z = true) (hby : c.code = code) (hml : c.maxLocals = 15) (hown : s.vm.findClass "hexwright/engine/SealedBidsHasBidPinLaw" = some m.cls) (e0 : T0.heap = h0) (N0 : Fr n0 locs) (Z0 : n0 ≤ h0.size) (f1 : F_0 Z h0 c0_a (.ref c1_a)) (f2 : Arv Z h0 c1_a c2_k (.object "java/lang/Long") (4 : Int32) [gx0, .null, gx2, gx3] .null) (f3 : E_1 Z h0 c0_a) :
    ∃ (T : State) (L : List Loc), Stand p l e room_1 s m #[(.int p0), (.int p1), (.long p2)] below meth c T L 6 9 ∧ T.heap = h0 ∧ Fr n0 L ∧ (∀ target, Steps p.tables e below (T.setTop (mkF m 208 #[.val (.int p0), .val (.int p1), .val (.long p2), .second, .val (.int 4), .val (.int gq5), .val (.int 0), .val (.int gq7), .val (.int gq8), .val (.long jam), .second, .val (.long gq11), .second, .val (.ref c0_a), .val (.int 1)] [])) target → Steps p.tables e below (T0.setTop (mkF m 179 #[.val (.int p0), .val (.int p1), .val (.long p2), .second, .val (.int 4), .val (.int gq5), .val (.int 0), .val (.int gq7), .val (.int gq8), .val (.long jam), .second, .val (.long gq11), .second, .val (.ref c0_a), .val (.int 1)] [])) target) := by
  -- pc 193: hexwright/engine/SealedBids.hasBid
  obtain ⟨cq1, kq1, q1a, q1b, q1c⟩ := isOf hZ e0 f3
  obtain ⟨_, _, ⟨T1, L1, k1, n1⟩, -, X1, ⟨Lc1, hQ1, l1, y1, z1⟩, st1⟩ := X0.virtualBack hx (y := M_1) (z := M_1) hown (mvT hZ (tw_28 hw)) (mvT hZ (tw_29 hw)) (notFace_of_selects (args := #[]) (mvT hZ (tw_31 hw))) (mvT hZ (tw_31 hw)) (mvT hZ (tw_30 hw)) (by decide) (backOf (W := 0) (rm5_214 l Z a0 hw [] c0_a c1_a c2_k gx0 gx2 gx3 h0 n0 Z0 f1 f2) hZ (tw_32 hw) (tw_3 hw) (by decide) (by decide)) q1a q1c (g := (mkF m 193 #[.val (.int p0), .val (.int p1), .val (.long p2), .second, .val (.int 4), .val (.int gq5), .val (.int 0), .val (.int gq7), .val (.int gq8), .val (.long jam), .second, .val (.long gq11), .second, .val (.ref c0_a), .val (.int 1)] [(.int 2), (.ref c0_a)])) rfl (by rw [hml]; rfl) (Steps.refl _) (argsL := [(.int 2)]) (rest := []) (lenOf pd_1 rfl) rfl (by show 2 * 0 + _ ≤ _; exact Nat.le_of_eq rfl) (hb hby at_193) (fun _ _ => ⟨rfl, e0, (by decide : 6 + 0 ≤ _), (by decide : 9 + 0 ≤ _)⟩)
  dsimp only [Pt.U, Pt.locs, Pt.cells, Pt.slots] at X1 l1 y1 z1 st1 hQ1
  subst l1 y1 z1
  obtain ⟨rfl, Nq1, e1⟩ := hQ1
  have N1 := Fr.app N0 Nq1
  refine ⟨T1, _, X1, e1, N1, fun target kt => ?_⟩
  show Steps p.tables e below (T0.setTop (mkF m 179 #[.val (.int p0), .val (.int p1), .val (.long p2), .second, .val (.int 4), .val (.int gq5), .val (.int 0), .val (.int gq7), .val (.int gq8), .val (.long jam), .second, .val (.long gq11), .second, .val (.ref c0_a), .val (.int 1)] [])) _
  refine XS.iload X0.here hx rfl (hb hby at_179) rfl ?_
  refine XS.iconst X0.here hx rfl (hb hby at_181) ?_
  refine XS.icmpNo X0.here hx rfl (hb hby at_182) rfl (by decide) ?_
  refine XS.iload X0.here hx rfl (hb hby at_185) rfl ?_
  refine XS.ifNo X0.here hx rfl (hb hby at_187) rfl (by decide) ?_
  show Steps p.tables e below (T0.setTop (mkF m 190 #[.val (.int p0), .val (.int p1), .val (.long p2), .second, .val (.int 4), .val (.int gq5), .val (.int 0), .val (.int gq7), .val (.int gq8), .val (.long jam), .second, .val (.long gq11), .second, .val (.ref c0_a), .val (.int 1)] [])) _
  refine XS.aload X0.here hx rfl (hb hby at_190) rfl rfl ?_
  refine XS.iconst X0.here hx rfl (hb hby at_192) ?_
  show Steps p.tables e below (T0.setTop (mkF m 193 #[.val (.int p0), .val (.int p1), .val (.long p2), .second, .val (.int 4), .val (.int gq5), .val (.int 0), .val (.int gq7), .val (.int gq8), .val (.long jam), .second, .val (.long gq11), .second, .val (.ref c0_a), .val (.int 1)] [(.int 2), (.ref c0_a)])) _
  refine st1.trans ?_
  refine XS.iload X1.here hx rfl (hb hby at_196) rfl ?_
  refine XS.icmpNo X1.here hx rfl (hb hby at_198) rfl (by decide) ?_
  refine XS.iconst X1.here hx rfl (hb hby at_201) ?_
  refine XS.goto X1.here hx rfl (pc0 := 202) (pc' := 206) rfl (hb hby at_202) (by decide) (by decide) ?_
  show Steps p.tables e below (T1.setTop (mkF m 206 #[.val (.int p0), .val (.int p1), .val (.long p2), .second, .val (.int 4), .val (.int gq5), .val (.int 0), .val (.int gq7), .val (.int gq8), .val (.long jam), .second, .val (.long gq11), .second, .val (.ref c0_a), .val (.int 1)] [(.int 1)])) _
  refine XS.istore X1.here hx rfl (hb hby at_206) rfl (l' := #[.val (.int p0), .val (.int p1), .val (.long p2), .second, .val (.int 4), .val (.int gq5), .val (.int 0), .val (.int gq7), .val (.int gq8), .val (.long jam), .second, .val (.long gq11), .second, .val (.ref c0_a), .val (.int 1)]) rfl ?_
  show Steps p.tables e below (T1.setTop (mkF m 208 #[.val (.int p0), .val (.int p1), .val (.long p2), .second, .val (.int 4), .val (.int gq5), .val (.int 0), .val (.int gq7), .val (.int gq8), .val (.long jam), .second, .val (.long gq11), .second, .val (.ref c0_a), .val (.int 1)] [])) _
  exact kt
set_option maxRecDepth 65536 in
set_option maxHeartbeats 40000000 in
theorem rm5_216 (l : Launch) (Z : State) (a0 : Array Value) (hw : ∀ d ∈ tables_1, d.before a0 Z = true) (ws : List Jvm.Cond) (c0_a : Addr) (c1_a : Addr) (c2_k : ClassId) (gx0 : Value) (gx1 : Value) (gx3 : Value) (h0 : Heap) (n0 : Nat) (Z0 : n0 ≤ h0.size) (f1 : F_0 Z h0 c0_a (.ref c1_a)) (f2 : Arv Z h0 c1_a c2_k (.object "java/lang/Long") (4 : Int32) [gx0, gx1, .null, gx3] .null) :
    MetFree l M_1 (head1 (Jvm.Cond.code M_1 prog_14_method_4_code 2 (some .boolean) :: ws) R_0_0_0_0) (fun a U => a = #[(.ref c0_a), (.int 3)] ∧ Z.Warmed39 U.vm ∧ U.heap = h0) (fun _ _ _ _ _ => True) (fun _ U o U' => ∃ v L, o = .returned v ∧ QP (some (.int 0)) h0 n0 v U'.heap L ∧ FrameEnd U o U' L R_0_0_0_0.cells R_0_0_0_0.slots) := by
  refine MetFree.of_bodySF (plainFor_of_name pn_hexwright_engine_SealedBids) hisR ?_
  intro p e s m args below meth c s₁ Bd hml0 hP hK
  obtain ⟨rfl, hZ, hh⟩ := hP
  have hx := Bd.exec
  have hby := Bd.bytes
  have hml : c.maxLocals = 2 := hml0
  have hown : s.vm.findClass "hexwright/engine/SealedBids" = some m.cls := findClass_of_methodNamed Bd.named
  have hnm := (name_of_methodNamed Bd.named Bd.method).1
  have X0 : Stand p l e R_0_0_0_0 s m #[(.ref c0_a), (.int 3)] below meth c s₁ [] 0 0 := Stand.of_body Bd
  have e0 : s₁.heap = h0 := by rw [← hh, Bd.state]; rfl
  have N0 := Fr.nil n0
  obtain ⟨T1, X1, e1, st1⟩ := getF X0 hx hZ hown (host := "") (Or.inl (tw_12 hw)) Via.refl e0 f1 (g := (mkF m 1 #[.val (.ref c0_a), .val (.int 3)] [(.ref c0_a)])) rfl rfl (hb hby d5_1)
  have va2 := f2
  obtain ⟨cl2, Ar2, -, S2, -, H2, -⟩ := va2
  have hin2 : ¬ ((2 : Int32) < 0 ∨ cl2.slots.size ≤ ((2 : Int32)).toNatClampNeg) := inb_of S2 ⟨by decide, by decide⟩
  have hat2 : cl2.slots[((2 : Int32)).toNatClampNeg]? = some .null := H2 _ (Nat.lt_of_not_le fun y => hin2 (Or.inr y))
  obtain ⟨fs, hr, hrun, hended, hW, hsame⟩ := X1.leave (v := (some (.int 0))) (fun h => by rw [Bd.returns] at h; cases h)
  refine ⟨_, _, castTop (ef5_RI m c0_a (3 : Int32)) ?_, hrun, hended, _, _, rfl, ?_, ⟨_, rfl⟩, hW, hsame.mono (by decide) (by decide)⟩
  · show Steps p.tables e below (s₁.setTop (mkF m 0 #[.val (.ref c0_a), .val (.int 3)] [])) _
    refine XS.aloadN X0.here hx rfl (hb hby d5_0) rfl rfl ?_
    show Steps p.tables e below (s₁.setTop (mkF m 1 #[.val (.ref c0_a), .val (.int 3)] [(.ref c0_a)])) _
    refine st1 _ ?_
    refine XS.iloadN X1.here hx rfl (hb hby d5_4) rfl ?_
    refine XS.iconst X1.here hx rfl (hb hby d5_5) ?_
    show Steps p.tables e below (T1.setTop (mkF m 6 #[.val (.ref c0_a), .val (.int 3)] [(.int 1), (.int 3), (.ref c1_a)])) _
    refine XS.isub X1.here hx rfl (hb hby d5_6) rfl ?_
    show Steps p.tables e below (T1.setTop (mkF m 7 #[.val (.ref c0_a), .val (.int 3)] [(.int ((3 : Int32) - (1 : Int32))), (.ref c1_a)])) _
    rw [show ((3 : Int32) - (1 : Int32)) = (2 : Int32) from by decide]
    show Steps p.tables e below (T1.setTop (mkF m 7 #[.val (.ref c0_a), .val (.int 3)] [(.int 2), (.ref c1_a)])) _
    refine X1.aaload hx (j := (2 : Int32)) (v := .null) (by rw [e1]; exact Ar2.1) (State.isArrayOf_alike hZ.alike Ar2.2.1) rfl Ar2.2.2 hin2 hat2 (g := (mkF m 7 #[.val (.ref c0_a), .val (.int 3)] [(.int 2), (.ref c1_a)])) rfl rfl (hb hby d5_7) _ ?_
    refine XS.ifnullYes X1.here hx rfl (pc0 := 8) (pc' := 15) rfl (hb hby d5_8) rfl (by decide) (by decide) ?_
    refine XS.iconst X1.here hx rfl (hb hby d5_15) ?_
    show Steps p.tables e below (T1.setTop (mkF m 16 #[.val (.ref c0_a), .val (.int 3)] [(.int 0)])) _
    exact retN X1 hx (t := .boolean) Bd.returns (by simp) (hb hby d5_16) hr
  · show QP (some (.int 0)) h0 n0 _ T1.heap _
    rw [e1]
    exact ⟨rfl, N0, rfl⟩
set_option maxRecDepth 65536 in
set_option maxHeartbeats 40000000 in
theorem sg208_217 {p : Program} {l : Launch} {e : Env} {s : State} {m : MethodId} {below : List Frame} {meth : Method} {c : Code} {T0 : State} {locs : List Loc} {Z : State} {a0 : Array Value} (p0 : Int32) (p1 : Int32) (p2 : Int64) (gq5 : Int32) (gq6 : Int32) (gq8 : Int32) (jam : Int64) (gq11 : Int64) (c0_a : Addr) (c1_a : Addr) (c2_k : ClassId) (gx0 : Value) (gx1 : Value) (gx3 : Value) {h0 : Heap} {n0 : Nat} (X0 : Stand p l e room_1 s m #[(.int p0), (.int p1), (.long p2)] below meth c T0 locs 6 9) (hx : p.tables.exec = Jvm.exec) (hZ : Z.Warmed39 s.vm) (hw : ∀ d ∈ tables_1, d.before a0 Z = true) (hby : c.code = code) (hml : c.maxLocals = 15) (hown : s.vm.findClass "hexwright/engine/SealedBidsHasBidPinLaw" = some m.cls) (e0 : T0.heap = h0) (N0 : Fr n0 locs) (Z0 : n0 ≤ h0.size) (f1 : F_0 Z h0 c0_a (.ref c1_a)) (f2 : Arv Z h0 c1_a c2_k (.object "java/lang/Long") (4 : Int32) [gx0, gx1, .null, gx3] .null) (f3 : E_1 Z h0 c0_a) :
    ∃ (T : State) (L : List Loc), Stand p l e room_1 s m #[(.int p0), (.int p1), (.long p2)] below meth c T L 6 9 ∧ T.heap = h0 ∧ Fr n0 L ∧ (∀ target, Steps p.tables e below (T.setTop (mkF m 237 #[.val (.int p0), .val (.int p1), .val (.long p2), .second, .val (.int 4), .val (.int gq5), .val (.int gq6), .val (.int 0), .val (.int gq8), .val (.long jam), .second, .val (.long gq11), .second, .val (.ref c0_a), .val (.int 1)] [])) target → Steps p.tables e below (T0.setTop (mkF m 208 #[.val (.int p0), .val (.int p1), .val (.long p2), .second, .val (.int 4), .val (.int gq5), .val (.int gq6), .val (.int 0), .val (.int gq8), .val (.long jam), .second, .val (.long gq11), .second, .val (.ref c0_a), .val (.int 1)] [])) target) := by
  -- pc 222: hexwright/engine/SealedBids.hasBid
  obtain ⟨cq1, kq1, q1a, q1b, q1c⟩ := isOf hZ e0 f3
  obtain ⟨_, _, ⟨T1, L1, k1, n1⟩, -, X1, ⟨Lc1, hQ1, l1, y1, z1⟩, st1⟩ := X0.virtualBack hx (y := M_1) (z := M_1) hown (mvT hZ (tw_28 hw)) (mvT hZ (tw_29 hw)) (notFace_of_selects (args := #[]) (mvT hZ (tw_31 hw))) (mvT hZ (tw_31 hw)) (mvT hZ (tw_30 hw)) (by decide) (backOf (W := 0) (rm5_216 l Z a0 hw [] c0_a c1_a c2_k gx0 gx1 gx3 h0 n0 Z0 f1 f2) hZ (tw_32 hw) (tw_3 hw) (by decide) (by decide)) q1a q1c (g := (mkF m 222 #[.val (.int p0), .val (.int p1), .val (.long p2), .second, .val (.int 4), .val (.int gq5), .val (.int gq6), .val (.int 0), .val (.int gq8), .val (.long jam), .second, .val (.long gq11), .second, .val (.ref c0_a), .val (.int 1)] [(.int 3), (.ref c0_a)])) rfl (by rw [hml]; rfl) (Steps.refl _) (argsL := [(.int 3)]) (rest := []) (lenOf pd_1 rfl) rfl (by show 2 * 0 + _ ≤ _; exact Nat.le_of_eq rfl) (hb hby at_222) (fun _ _ => ⟨rfl, e0, (by decide : 6 + 0 ≤ _), (by decide : 9 + 0 ≤ _)⟩)
  dsimp only [Pt.U, Pt.locs, Pt.cells, Pt.slots] at X1 l1 y1 z1 st1 hQ1
  subst l1 y1 z1
  obtain ⟨rfl, Nq1, e1⟩ := hQ1
  have N1 := Fr.app N0 Nq1
  refine ⟨T1, _, X1, e1, N1, fun target kt => ?_⟩
  show Steps p.tables e below (T0.setTop (mkF m 208 #[.val (.int p0), .val (.int p1), .val (.long p2), .second, .val (.int 4), .val (.int gq5), .val (.int gq6), .val (.int 0), .val (.int gq8), .val (.long jam), .second, .val (.long gq11), .second, .val (.ref c0_a), .val (.int 1)] [])) _
  refine XS.iload X0.here hx rfl (hb hby at_208) rfl ?_
  refine XS.iconst X0.here hx rfl (hb hby at_210) ?_
  refine XS.icmpNo X0.here hx rfl (hb hby at_211) rfl (by decide) ?_
  refine XS.iload X0.here hx rfl (hb hby at_214) rfl ?_
  refine XS.ifNo X0.here hx rfl (hb hby at_216) rfl (by decide) ?_
  show Steps p.tables e below (T0.setTop (mkF m 219 #[.val (.int p0), .val (.int p1), .val (.long p2), .second, .val (.int 4), .val (.int gq5), .val (.int gq6), .val (.int 0), .val (.int gq8), .val (.long jam), .second, .val (.long gq11), .second, .val (.ref c0_a), .val (.int 1)] [])) _
  refine XS.aload X0.here hx rfl (hb hby at_219) rfl rfl ?_
  refine XS.iconst X0.here hx rfl (hb hby at_221) ?_
  show Steps p.tables e below (T0.setTop (mkF m 222 #[.val (.int p0), .val (.int p1), .val (.long p2), .second, .val (.int 4), .val (.int gq5), .val (.int gq6), .val (.int 0), .val (.int gq8), .val (.long jam), .second, .val (.long gq11), .second, .val (.ref c0_a), .val (.int 1)] [(.int 3), (.ref c0_a)])) _
  refine st1.trans ?_
  refine XS.iload X1.here hx rfl (hb hby at_225) rfl ?_
  refine XS.icmpNo X1.here hx rfl (hb hby at_227) rfl (by decide) ?_
  refine XS.iconst X1.here hx rfl (hb hby at_230) ?_
  refine XS.goto X1.here hx rfl (pc0 := 231) (pc' := 235) rfl (hb hby at_231) (by decide) (by decide) ?_
  show Steps p.tables e below (T1.setTop (mkF m 235 #[.val (.int p0), .val (.int p1), .val (.long p2), .second, .val (.int 4), .val (.int gq5), .val (.int gq6), .val (.int 0), .val (.int gq8), .val (.long jam), .second, .val (.long gq11), .second, .val (.ref c0_a), .val (.int 1)] [(.int 1)])) _
  refine XS.istore X1.here hx rfl (hb hby at_235) rfl (l' := #[.val (.int p0), .val (.int p1), .val (.long p2), .second, .val (.int 4), .val (.int gq5), .val (.int gq6), .val (.int 0), .val (.int gq8), .val (.long jam), .second, .val (.long gq11), .second, .val (.ref c0_a), .val (.int 1)]) rfl ?_
  show Steps p.tables e below (T1.setTop (mkF m 237 #[.val (.int p0), .val (.int p1), .val (.long p2), .second, .val (.int 4), .val (.int gq5), .val (.int gq6), .val (.int 0), .val (.int gq8), .val (.long jam), .second, .val (.long gq11), .second, .val (.ref c0_a), .val (.int 1)] [])) _
  exact kt
set_option maxRecDepth 65536 in
set_option maxHeartbeats 40000000 in
theorem rm5_218 (l : Launch) (Z : State) (a0 : Array Value) (hw : ∀ d ∈ tables_1, d.before a0 Z = true) (ws : List Jvm.Cond) (c0_a : Addr) (c1_a : Addr) (c2_k : ClassId) (gx0 : Value) (gx1 : Value) (gx2 : Value) (h0 : Heap) (n0 : Nat) (Z0 : n0 ≤ h0.size) (f1 : F_0 Z h0 c0_a (.ref c1_a)) (f2 : Arv Z h0 c1_a c2_k (.object "java/lang/Long") (4 : Int32) [gx0, gx1, gx2, .null] .null) :
    MetFree l M_1 (head1 (Jvm.Cond.code M_1 prog_14_method_4_code 2 (some .boolean) :: ws) R_0_0_0_0) (fun a U => a = #[(.ref c0_a), (.int 4)] ∧ Z.Warmed39 U.vm ∧ U.heap = h0) (fun _ _ _ _ _ => True) (fun _ U o U' => ∃ v L, o = .returned v ∧ QP (some (.int 0)) h0 n0 v U'.heap L ∧ FrameEnd U o U' L R_0_0_0_0.cells R_0_0_0_0.slots) := by
  refine MetFree.of_bodySF (plainFor_of_name pn_hexwright_engine_SealedBids) hisR ?_
  intro p e s m args below meth c s₁ Bd hml0 hP hK
  obtain ⟨rfl, hZ, hh⟩ := hP
  have hx := Bd.exec
  have hby := Bd.bytes
  have hml : c.maxLocals = 2 := hml0
  have hown : s.vm.findClass "hexwright/engine/SealedBids" = some m.cls := findClass_of_methodNamed Bd.named
  have hnm := (name_of_methodNamed Bd.named Bd.method).1
  have X0 : Stand p l e R_0_0_0_0 s m #[(.ref c0_a), (.int 4)] below meth c s₁ [] 0 0 := Stand.of_body Bd
  have e0 : s₁.heap = h0 := by rw [← hh, Bd.state]; rfl
  have N0 := Fr.nil n0
  obtain ⟨T1, X1, e1, st1⟩ := getF X0 hx hZ hown (host := "") (Or.inl (tw_12 hw)) Via.refl e0 f1 (g := (mkF m 1 #[.val (.ref c0_a), .val (.int 4)] [(.ref c0_a)])) rfl rfl (hb hby d5_1)
  have va2 := f2
  obtain ⟨cl2, Ar2, -, S2, -, H2, -⟩ := va2
  have hin2 : ¬ ((3 : Int32) < 0 ∨ cl2.slots.size ≤ ((3 : Int32)).toNatClampNeg) := inb_of S2 ⟨by decide, by decide⟩
  have hat2 : cl2.slots[((3 : Int32)).toNatClampNeg]? = some .null := H2 _ (Nat.lt_of_not_le fun y => hin2 (Or.inr y))
  obtain ⟨fs, hr, hrun, hended, hW, hsame⟩ := X1.leave (v := (some (.int 0))) (fun h => by rw [Bd.returns] at h; cases h)
  refine ⟨_, _, castTop (ef5_RI m c0_a (4 : Int32)) ?_, hrun, hended, _, _, rfl, ?_, ⟨_, rfl⟩, hW, hsame.mono (by decide) (by decide)⟩
  · show Steps p.tables e below (s₁.setTop (mkF m 0 #[.val (.ref c0_a), .val (.int 4)] [])) _
    refine XS.aloadN X0.here hx rfl (hb hby d5_0) rfl rfl ?_
    show Steps p.tables e below (s₁.setTop (mkF m 1 #[.val (.ref c0_a), .val (.int 4)] [(.ref c0_a)])) _
    refine st1 _ ?_
    refine XS.iloadN X1.here hx rfl (hb hby d5_4) rfl ?_
    refine XS.iconst X1.here hx rfl (hb hby d5_5) ?_
    show Steps p.tables e below (T1.setTop (mkF m 6 #[.val (.ref c0_a), .val (.int 4)] [(.int 1), (.int 4), (.ref c1_a)])) _
    refine XS.isub X1.here hx rfl (hb hby d5_6) rfl ?_
    show Steps p.tables e below (T1.setTop (mkF m 7 #[.val (.ref c0_a), .val (.int 4)] [(.int ((4 : Int32) - (1 : Int32))), (.ref c1_a)])) _
    rw [show ((4 : Int32) - (1 : Int32)) = (3 : Int32) from by decide]
    show Steps p.tables e below (T1.setTop (mkF m 7 #[.val (.ref c0_a), .val (.int 4)] [(.int 3), (.ref c1_a)])) _
    refine X1.aaload hx (j := (3 : Int32)) (v := .null) (by rw [e1]; exact Ar2.1) (State.isArrayOf_alike hZ.alike Ar2.2.1) rfl Ar2.2.2 hin2 hat2 (g := (mkF m 7 #[.val (.ref c0_a), .val (.int 4)] [(.int 3), (.ref c1_a)])) rfl rfl (hb hby d5_7) _ ?_
    refine XS.ifnullYes X1.here hx rfl (pc0 := 8) (pc' := 15) rfl (hb hby d5_8) rfl (by decide) (by decide) ?_
    refine XS.iconst X1.here hx rfl (hb hby d5_15) ?_
    show Steps p.tables e below (T1.setTop (mkF m 16 #[.val (.ref c0_a), .val (.int 4)] [(.int 0)])) _
    exact retN X1 hx (t := .boolean) Bd.returns (by simp) (hb hby d5_16) hr
  · show QP (some (.int 0)) h0 n0 _ T1.heap _
    rw [e1]
    exact ⟨rfl, N0, rfl⟩
set_option maxRecDepth 65536 in
set_option maxHeartbeats 40000000 in
theorem sg237_219 {p : Program} {l : Launch} {e : Env} {s : State} {m : MethodId} {below : List Frame} {meth : Method} {c : Code} {T0 : State} {locs : List Loc} {Z : State} {a0 : Array Value} (p0 : Int32) (p1 : Int32) (p2 : Int64) (gq5 : Int32) (gq6 : Int32) (gq7 : Int32) (jam : Int64) (gq11 : Int64) (c0_a : Addr) (c1_a : Addr) (c2_k : ClassId) (gx0 : Value) (gx1 : Value) (gx2 : Value) {h0 : Heap} {n0 : Nat} (X0 : Stand p l e room_1 s m #[(.int p0), (.int p1), (.long p2)] below meth c T0 locs 6 9) (hx : p.tables.exec = Jvm.exec) (hZ : Z.Warmed39 s.vm) (hw : ∀ d ∈ tables_1, d.before a0 Z = true) (hby : c.code = code) (hml : c.maxLocals = 15) (hown : s.vm.findClass "hexwright/engine/SealedBidsHasBidPinLaw" = some m.cls) (e0 : T0.heap = h0) (N0 : Fr n0 locs) (Z0 : n0 ≤ h0.size) (f1 : F_0 Z h0 c0_a (.ref c1_a)) (f2 : Arv Z h0 c1_a c2_k (.object "java/lang/Long") (4 : Int32) [gx0, gx1, gx2, .null] .null) (f3 : E_1 Z h0 c0_a) :
    ∃ (T : State) (L : List Loc), Stand p l e room_1 s m #[(.int p0), (.int p1), (.long p2)] below meth c T L 6 9 ∧ T.heap = h0 ∧ Fr n0 L ∧ (∀ target, Steps p.tables e below (T.setTop (mkF m 266 #[.val (.int p0), .val (.int p1), .val (.long p2), .second, .val (.int 4), .val (.int gq5), .val (.int gq6), .val (.int gq7), .val (.int 0), .val (.long jam), .second, .val (.long gq11), .second, .val (.ref c0_a), .val (.int 1)] [])) target → Steps p.tables e below (T0.setTop (mkF m 237 #[.val (.int p0), .val (.int p1), .val (.long p2), .second, .val (.int 4), .val (.int gq5), .val (.int gq6), .val (.int gq7), .val (.int 0), .val (.long jam), .second, .val (.long gq11), .second, .val (.ref c0_a), .val (.int 1)] [])) target) := by
  -- pc 251: hexwright/engine/SealedBids.hasBid
  obtain ⟨cq1, kq1, q1a, q1b, q1c⟩ := isOf hZ e0 f3
  obtain ⟨_, _, ⟨T1, L1, k1, n1⟩, -, X1, ⟨Lc1, hQ1, l1, y1, z1⟩, st1⟩ := X0.virtualBack hx (y := M_1) (z := M_1) hown (mvT hZ (tw_28 hw)) (mvT hZ (tw_29 hw)) (notFace_of_selects (args := #[]) (mvT hZ (tw_31 hw))) (mvT hZ (tw_31 hw)) (mvT hZ (tw_30 hw)) (by decide) (backOf (W := 0) (rm5_218 l Z a0 hw [] c0_a c1_a c2_k gx0 gx1 gx2 h0 n0 Z0 f1 f2) hZ (tw_32 hw) (tw_3 hw) (by decide) (by decide)) q1a q1c (g := (mkF m 251 #[.val (.int p0), .val (.int p1), .val (.long p2), .second, .val (.int 4), .val (.int gq5), .val (.int gq6), .val (.int gq7), .val (.int 0), .val (.long jam), .second, .val (.long gq11), .second, .val (.ref c0_a), .val (.int 1)] [(.int 4), (.ref c0_a)])) rfl (by rw [hml]; rfl) (Steps.refl _) (argsL := [(.int 4)]) (rest := []) (lenOf pd_1 rfl) rfl (by show 2 * 0 + _ ≤ _; exact Nat.le_of_eq rfl) (hb hby at_251) (fun _ _ => ⟨rfl, e0, (by decide : 6 + 0 ≤ _), (by decide : 9 + 0 ≤ _)⟩)
  dsimp only [Pt.U, Pt.locs, Pt.cells, Pt.slots] at X1 l1 y1 z1 st1 hQ1
  subst l1 y1 z1
  obtain ⟨rfl, Nq1, e1⟩ := hQ1
  have N1 := Fr.app N0 Nq1
  refine ⟨T1, _, X1, e1, N1, fun target kt => ?_⟩
  show Steps p.tables e below (T0.setTop (mkF m 237 #[.val (.int p0), .val (.int p1), .val (.long p2), .second, .val (.int 4), .val (.int gq5), .val (.int gq6), .val (.int gq7), .val (.int 0), .val (.long jam), .second, .val (.long gq11), .second, .val (.ref c0_a), .val (.int 1)] [])) _
  refine XS.iload X0.here hx rfl (hb hby at_237) rfl ?_
  refine XS.iconst X0.here hx rfl (hb hby at_239) ?_
  refine XS.icmpNo X0.here hx rfl (hb hby at_240) rfl (by decide) ?_
  refine XS.iload X0.here hx rfl (hb hby at_243) rfl ?_
  refine XS.ifNo X0.here hx rfl (hb hby at_245) rfl (by decide) ?_
  show Steps p.tables e below (T0.setTop (mkF m 248 #[.val (.int p0), .val (.int p1), .val (.long p2), .second, .val (.int 4), .val (.int gq5), .val (.int gq6), .val (.int gq7), .val (.int 0), .val (.long jam), .second, .val (.long gq11), .second, .val (.ref c0_a), .val (.int 1)] [])) _
  refine XS.aload X0.here hx rfl (hb hby at_248) rfl rfl ?_
  refine XS.iconst X0.here hx rfl (hb hby at_250) ?_
  show Steps p.tables e below (T0.setTop (mkF m 251 #[.val (.int p0), .val (.int p1), .val (.long p2), .second, .val (.int 4), .val (.int gq5), .val (.int gq6), .val (.int gq7), .val (.int 0), .val (.long jam), .second, .val (.long gq11), .second, .val (.ref c0_a), .val (.int 1)] [(.int 4), (.ref c0_a)])) _
  refine st1.trans ?_
  refine XS.iload X1.here hx rfl (hb hby at_254) rfl ?_
  refine XS.icmpNo X1.here hx rfl (hb hby at_256) rfl (by decide) ?_
  refine XS.iconst X1.here hx rfl (hb hby at_259) ?_
  refine XS.goto X1.here hx rfl (pc0 := 260) (pc' := 264) rfl (hb hby at_260) (by decide) (by decide) ?_
  show Steps p.tables e below (T1.setTop (mkF m 264 #[.val (.int p0), .val (.int p1), .val (.long p2), .second, .val (.int 4), .val (.int gq5), .val (.int gq6), .val (.int gq7), .val (.int 0), .val (.long jam), .second, .val (.long gq11), .second, .val (.ref c0_a), .val (.int 1)] [(.int 1)])) _
  refine XS.istore X1.here hx rfl (hb hby at_264) rfl (l' := #[.val (.int p0), .val (.int p1), .val (.long p2), .second, .val (.int 4), .val (.int gq5), .val (.int gq6), .val (.int gq7), .val (.int 0), .val (.long jam), .second, .val (.long gq11), .second, .val (.ref c0_a), .val (.int 1)]) rfl ?_
  show Steps p.tables e below (T1.setTop (mkF m 266 #[.val (.int p0), .val (.int p1), .val (.long p2), .second, .val (.int 4), .val (.int gq5), .val (.int gq6), .val (.int gq7), .val (.int 0), .val (.long jam), .second, .val (.long gq11), .second, .val (.ref c0_a), .val (.int 1)] [])) _
  exact kt
set_option maxRecDepth 65536 in
set_option maxHeartbeats 40000000 in
theorem rm0_220 (l : Launch) (Z : State) (a0 : Array Value) (hw : ∀ d ∈ tables_1, d.before a0 Z = true) (ws : List Jvm.Cond) (p0 : Int32) (p1 : Int32) (p2 : Int64) (jam : Int64) (h0 : Heap) (n0 : Nat) (Z0 : n0 ≤ h0.size) (f1 : (p0 &&& (3 : Int32)) = (3 : Int32)) (f2 : (p1 &&& (1 : Int32)) = (0 : Int32)) (f3 : (p1 &&& (2 : Int32)) = (0 : Int32)) (f4 : (p1 &&& (4 : Int32)) = (0 : Int32)) (f5 : (p1 &&& (8 : Int32)) = (0 : Int32)) (f6 : (p2 &&& (9223372036854775807 : Int64)) = jam) :
    MetFree l x (head1 (Jvm.Cond.code x code maxLocals ret :: ws) room_1) (fun a U => a = #[(.int p0), (.int p1), (.long p2)] ∧ Z.Warmed39 U.vm ∧ U.heap = h0) (fun _ _ _ _ _ => True) (fun _ U o U' => ∃ v L, o = .returned v ∧ QT n0 v U'.heap L ∧ FrameEnd U o U' L room_1.cells room_1.slots) := by
  refine MetFree.of_bodySF (plainFor_of_name pn_hexwright_engine_SealedBidsHasBidPinLaw) hisR ?_
  intro p e s m args below meth c s₁ Bd hml0 hP hK
  obtain ⟨rfl, hZ, hh⟩ := hP
  have hx := Bd.exec
  have hby := Bd.bytes
  have hml : c.maxLocals = 15 := hml0
  have hown : s.vm.findClass "hexwright/engine/SealedBidsHasBidPinLaw" = some m.cls := findClass_of_methodNamed Bd.named
  have hnm := (name_of_methodNamed Bd.named Bd.method).1
  have X0 : Stand p l e room_1 s m #[(.int p0), (.int p1), (.long p2)] below meth c s₁ [] 0 0 := Stand.of_body Bd
  have e0 : s₁.heap = h0 := by rw [← hh, Bd.state]; rfl
  have N0 := Fr.nil n0
  obtain ⟨T1, L1, X1, e1, N1, st1⟩ := sg7_1 p0 p1 p2 (4 : Int32) X0 hx hZ hw hby hml hown e0 N0 Z0 f2
  obtain ⟨T2, L2, X2, e2, N2, st2⟩ := sg20_194 p0 p1 p2 (0 : Int32) X1 hx hZ hw hby hml hown e1 N1 Z0 f3
  obtain ⟨T3, L3, X3, e3, N3, st3⟩ := sg39_195 p0 p1 p2 (0 : Int32) (0 : Int32) X2 hx hZ hw hby hml hown e2 N2 Z0 f4
  obtain ⟨T4, L4, X4, e4, N4, st4⟩ := sg58_196 p0 p1 p2 (0 : Int32) (0 : Int32) (0 : Int32) X3 hx hZ hw hby hml hown e3 N3 Z0 f5
  obtain ⟨T5, L5, X5, e5, N5, st5⟩ := sg78_5 p0 p1 p2 (4 : Int32) (0 : Int32) (0 : Int32) (0 : Int32) (0 : Int32) jam X4 hx hZ hw hby hml hown e4 N4 Z0 f6
  obtain ⟨T6, h6, L6, b205, b206, kc207, X6, e6, N6, K6, le_b205, le_b206, o6_0, o6_1, o6_2, o6_3, o6_4, st6⟩ := sg90_204 p0 p1 p2 (0 : Int32) (0 : Int32) (0 : Int32) (0 : Int32) jam (9223372036854775807 : Int64) X5 hx hZ hw hby hml hown e5 N5 Z0 
  have sz_b205 : h0.size ≤ b205 := Nat.le_trans (Nat.le_refl _) le_b205
  have g_b205 : n0 ≤ b205 := Nat.le_trans Z0 sz_b205
  have sz_b206 : h0.size ≤ b206 := Nat.le_trans (Nat.le_refl _) le_b206
  have g_b206 : n0 ≤ b206 := Nat.le_trans Z0 sz_b206
  have KK6 : Keep h0 h6 [] := (Keep.refl h0 []).trans K6 (fun x hx => nomatch hx)
  obtain ⟨T7, L7, X7, e7, N7, st7⟩ := sg101_208 p0 p1 p2 (4 : Int32) (0 : Int32) (0 : Int32) (0 : Int32) jam b205 X6 hx hZ hw hby hml hown e6 N6 (Nat.le_trans Z0 KK6.1) 
  obtain ⟨T8, L8, X8, e8, N8, st8⟩ := sg116_209 p0 p1 p2 (4 : Int32) (0 : Int32) (0 : Int32) (0 : Int32) jam b205 X7 hx hZ hw hby hml hown e7 N7 (Nat.le_trans Z0 KK6.1) 
  obtain ⟨T9, L9, X9, e9, N9, st9⟩ := sg131_210 p0 p1 p2 (4 : Int32) (0 : Int32) (0 : Int32) (0 : Int32) jam b205 X8 hx hZ hw hby hml hown e8 N8 (Nat.le_trans Z0 KK6.1) 
  obtain ⟨T10, L10, X10, e10, N10, st10⟩ := sg146_211 p0 p1 p2 (4 : Int32) (0 : Int32) (0 : Int32) (0 : Int32) jam b205 X9 hx hZ hw hby hml hown e9 N9 (Nat.le_trans Z0 KK6.1) 
  obtain ⟨T11, L11, X11, e11, N11, st11⟩ := sg161_213 p0 p1 p2 (4 : Int32) (0 : Int32) (0 : Int32) (0 : Int32) jam (9223372036854775807 : Int64) b205 b206 kc207 .null .null .null X10 hx hZ hw hby hml hown e10 N10 (Nat.le_trans Z0 KK6.1) o6_1 o6_2 o6_0
  obtain ⟨T12, L12, X12, e12, N12, st12⟩ := sg179_215 p0 p1 p2 (0 : Int32) (0 : Int32) (0 : Int32) jam (9223372036854775807 : Int64) b205 b206 kc207 .null .null .null X11 hx hZ hw hby hml hown e11 N11 (Nat.le_trans Z0 KK6.1) o6_1 o6_2 o6_0
  obtain ⟨T13, L13, X13, e13, N13, st13⟩ := sg208_217 p0 p1 p2 (0 : Int32) (0 : Int32) (0 : Int32) jam (9223372036854775807 : Int64) b205 b206 kc207 .null .null .null X12 hx hZ hw hby hml hown e12 N12 (Nat.le_trans Z0 KK6.1) o6_1 o6_2 o6_0
  obtain ⟨T14, L14, X14, e14, N14, st14⟩ := sg237_219 p0 p1 p2 (0 : Int32) (0 : Int32) (0 : Int32) jam (9223372036854775807 : Int64) b205 b206 kc207 .null .null .null X13 hx hZ hw hby hml hown e13 N13 (Nat.le_trans Z0 KK6.1) o6_1 o6_2 o6_0
  obtain ⟨fs, hr, hrun, hended, hW, hsame⟩ := X14.leave (v := (some (.int 1))) (fun h => by rw [Bd.returns] at h; cases h)
  refine ⟨_, _, castTop (ef0_IIJ m p0 p1 p2) ?_, hrun, hended, _, _, rfl, ?_, ⟨_, rfl⟩, hW, hsame.mono (by decide) (by decide)⟩
  · show Steps p.tables e below (s₁.setTop (mkF m 0 #[.val (.int p0), .val (.int p1), .val (.long p2), .second, .unset, .unset, .unset, .unset, .unset, .unset, .unset, .unset, .unset, .unset, .unset] [])) _
    refine XS.iloadN X0.here hx rfl (hb hby at_0) rfl ?_
    refine XS.iconst X0.here hx rfl (hb hby at_1) ?_
    show Steps p.tables e below (s₁.setTop (mkF m 2 #[.val (.int p0), .val (.int p1), .val (.long p2), .second, .unset, .unset, .unset, .unset, .unset, .unset, .unset, .unset, .unset, .unset, .unset] [(.int 3), (.int p0)])) _
    refine XS.iand X0.here hx rfl (hb hby at_2) rfl ?_
    show Steps p.tables e below (s₁.setTop (mkF m 3 #[.val (.int p0), .val (.int p1), .val (.long p2), .second, .unset, .unset, .unset, .unset, .unset, .unset, .unset, .unset, .unset, .unset, .unset] [(.int (p0 &&& (3 : Int32)))])) _
    rw [f1]
    refine XS.iconst X0.here hx rfl (hb hby at_3) ?_
    show Steps p.tables e below (s₁.setTop (mkF m 4 #[.val (.int p0), .val (.int p1), .val (.long p2), .second, .unset, .unset, .unset, .unset, .unset, .unset, .unset, .unset, .unset, .unset, .unset] [(.int 1), (.int 3)])) _
    refine XS.iadd X0.here hx rfl (hb hby at_4) rfl ?_
    show Steps p.tables e below (s₁.setTop (mkF m 5 #[.val (.int p0), .val (.int p1), .val (.long p2), .second, .unset, .unset, .unset, .unset, .unset, .unset, .unset, .unset, .unset, .unset, .unset] [(.int ((3 : Int32) + (1 : Int32)))])) _
    rw [show ((3 : Int32) + (1 : Int32)) = (4 : Int32) from by decide]
    refine XS.istore X0.here hx rfl (hb hby at_5) rfl (l' := #[.val (.int p0), .val (.int p1), .val (.long p2), .second, .val (.int 4), .unset, .unset, .unset, .unset, .unset, .unset, .unset, .unset, .unset, .unset]) rfl ?_
    show Steps p.tables e below (s₁.setTop (mkF m 7 #[.val (.int p0), .val (.int p1), .val (.long p2), .second, .val (.int 4), .unset, .unset, .unset, .unset, .unset, .unset, .unset, .unset, .unset, .unset] [])) _
    refine st1 _ ?_
    show Steps p.tables e below (T1.setTop (mkF m 20 #[.val (.int p0), .val (.int p1), .val (.long p2), .second, .val (.int 4), .val (.int 0), .unset, .unset, .unset, .unset, .unset, .unset, .unset, .unset, .unset] [])) _
    refine st2 _ ?_
    show Steps p.tables e below (T2.setTop (mkF m 39 #[.val (.int p0), .val (.int p1), .val (.long p2), .second, .val (.int 4), .val (.int 0), .val (.int 0), .unset, .unset, .unset, .unset, .unset, .unset, .unset, .unset] [])) _
    refine st3 _ ?_
    show Steps p.tables e below (T3.setTop (mkF m 58 #[.val (.int p0), .val (.int p1), .val (.long p2), .second, .val (.int 4), .val (.int 0), .val (.int 0), .val (.int 0), .unset, .unset, .unset, .unset, .unset, .unset, .unset] [])) _
    refine st4 _ ?_
    show Steps p.tables e below (T4.setTop (mkF m 78 #[.val (.int p0), .val (.int p1), .val (.long p2), .second, .val (.int 4), .val (.int 0), .val (.int 0), .val (.int 0), .val (.int 0), .unset, .unset, .unset, .unset, .unset, .unset] [])) _
    refine st5 _ ?_
    show Steps p.tables e below (T5.setTop (mkF m 90 #[.val (.int p0), .val (.int p1), .val (.long p2), .second, .val (.int 4), .val (.int 0), .val (.int 0), .val (.int 0), .val (.int 0), .val (.long jam), .second, .val (.long 9223372036854775807), .second, .unset, .unset] [])) _
    refine st6 _ ?_
    show Steps p.tables e below (T6.setTop (mkF m 101 #[.val (.int p0), .val (.int p1), .val (.long p2), .second, .val (.int 4), .val (.int 0), .val (.int 0), .val (.int 0), .val (.int 0), .val (.long jam), .second, .val (.long 9223372036854775807), .second, .val (.ref b205), .unset] [])) _
    refine st7 _ ?_
    show Steps p.tables e below (T7.setTop (mkF m 116 #[.val (.int p0), .val (.int p1), .val (.long p2), .second, .val (.int 4), .val (.int 0), .val (.int 0), .val (.int 0), .val (.int 0), .val (.long jam), .second, .val (.long 9223372036854775807), .second, .val (.ref b205), .unset] [])) _
    refine st8 _ ?_
    show Steps p.tables e below (T8.setTop (mkF m 131 #[.val (.int p0), .val (.int p1), .val (.long p2), .second, .val (.int 4), .val (.int 0), .val (.int 0), .val (.int 0), .val (.int 0), .val (.long jam), .second, .val (.long 9223372036854775807), .second, .val (.ref b205), .unset] [])) _
    refine st9 _ ?_
    show Steps p.tables e below (T9.setTop (mkF m 146 #[.val (.int p0), .val (.int p1), .val (.long p2), .second, .val (.int 4), .val (.int 0), .val (.int 0), .val (.int 0), .val (.int 0), .val (.long jam), .second, .val (.long 9223372036854775807), .second, .val (.ref b205), .unset] [])) _
    refine st10 _ ?_
    show Steps p.tables e below (T10.setTop (mkF m 161 #[.val (.int p0), .val (.int p1), .val (.long p2), .second, .val (.int 4), .val (.int 0), .val (.int 0), .val (.int 0), .val (.int 0), .val (.long jam), .second, .val (.long 9223372036854775807), .second, .val (.ref b205), .unset] [])) _
    refine st11 _ ?_
    show Steps p.tables e below (T11.setTop (mkF m 179 #[.val (.int p0), .val (.int p1), .val (.long p2), .second, .val (.int 4), .val (.int 0), .val (.int 0), .val (.int 0), .val (.int 0), .val (.long jam), .second, .val (.long 9223372036854775807), .second, .val (.ref b205), .val (.int 1)] [])) _
    refine st12 _ ?_
    show Steps p.tables e below (T12.setTop (mkF m 208 #[.val (.int p0), .val (.int p1), .val (.long p2), .second, .val (.int 4), .val (.int 0), .val (.int 0), .val (.int 0), .val (.int 0), .val (.long jam), .second, .val (.long 9223372036854775807), .second, .val (.ref b205), .val (.int 1)] [])) _
    refine st13 _ ?_
    show Steps p.tables e below (T13.setTop (mkF m 237 #[.val (.int p0), .val (.int p1), .val (.long p2), .second, .val (.int 4), .val (.int 0), .val (.int 0), .val (.int 0), .val (.int 0), .val (.long jam), .second, .val (.long 9223372036854775807), .second, .val (.ref b205), .val (.int 1)] [])) _
    refine st14 _ ?_
    refine XS.iload X14.here hx rfl (hb hby at_266) rfl ?_
    show Steps p.tables e below (T14.setTop (mkF m 268 #[.val (.int p0), .val (.int p1), .val (.long p2), .second, .val (.int 4), .val (.int 0), .val (.int 0), .val (.int 0), .val (.int 0), .val (.long jam), .second, .val (.long 9223372036854775807), .second, .val (.ref b205), .val (.int 1)] [(.int 1)])) _
    exact retN X14 hx (t := .boolean) Bd.returns (by simp) (hb hby at_268) hr
  · show QT n0 _ T14.heap _
    rw [e14]
    exact ⟨rfl, N14⟩
set_option maxRecDepth 65536 in
set_option maxHeartbeats 40000000 in
theorem sg58_221 {p : Program} {l : Launch} {e : Env} {s : State} {m : MethodId} {below : List Frame} {meth : Method} {c : Code} {T0 : State} {locs : List Loc} {Z : State} {a0 : Array Value} (p0 : Int32) (p1 : Int32) (p2 : Int64) (gq5 : Int32) (gq6 : Int32) (gq7 : Int32) {h0 : Heap} {n0 : Nat} (X0 : Stand p l e room_1 s m #[(.int p0), (.int p1), (.long p2)] below meth c T0 locs 0 0) (hx : p.tables.exec = Jvm.exec) (hZ : Z.Warmed39 s.vm) (hw : ∀ d ∈ tables_1, d.before a0 Z = true) (hby : c.code = code) (hml : c.maxLocals = 15) (hown : s.vm.findClass "hexwright/engine/SealedBidsHasBidPinLaw" = some m.cls) (e0 : T0.heap = h0) (N0 : Fr n0 locs) (Z0 : n0 ≤ h0.size) (f1 : ¬ ((p1 &&& (8 : Int32)) = (0 : Int32))) :
    ∃ (T : State) (L : List Loc), Stand p l e room_1 s m #[(.int p0), (.int p1), (.long p2)] below meth c T L 0 0 ∧ T.heap = h0 ∧ Fr n0 L ∧ (∀ target, Steps p.tables e below (T.setTop (mkF m 78 #[.val (.int p0), .val (.int p1), .val (.long p2), .second, .val (.int 4), .val (.int gq5), .val (.int gq6), .val (.int gq7), .val (.int 1), .unset, .unset, .unset, .unset, .unset, .unset] [])) target → Steps p.tables e below (T0.setTop (mkF m 58 #[.val (.int p0), .val (.int p1), .val (.long p2), .second, .val (.int 4), .val (.int gq5), .val (.int gq6), .val (.int gq7), .unset, .unset, .unset, .unset, .unset, .unset, .unset] [])) target) := by
  refine ⟨T0, _, X0, e0, N0, fun target kt => ?_⟩
  show Steps p.tables e below (T0.setTop (mkF m 58 #[.val (.int p0), .val (.int p1), .val (.long p2), .second, .val (.int 4), .val (.int gq5), .val (.int gq6), .val (.int gq7), .unset, .unset, .unset, .unset, .unset, .unset, .unset] [])) _
  refine XS.iload X0.here hx rfl (hb hby at_58) rfl ?_
  refine XS.iconst X0.here hx rfl (hb hby at_60) ?_
  refine XS.icmpNo X0.here hx rfl (hb hby at_61) rfl (by decide) ?_
  refine XS.iloadN X0.here hx rfl (hb hby at_64) rfl ?_
  refine XS.bipush X0.here hx rfl (hb hby at_65) ?_
  show Steps p.tables e below (T0.setTop (mkF m 67 #[.val (.int p0), .val (.int p1), .val (.long p2), .second, .val (.int 4), .val (.int gq5), .val (.int gq6), .val (.int gq7), .unset, .unset, .unset, .unset, .unset, .unset, .unset] [(.int 8), (.int p1)])) _
  refine XS.iand X0.here hx rfl (hb hby at_67) rfl ?_
  refine XS.ifNo X0.here hx rfl (hb hby at_68) rfl ((if0 _ _).trans (feq (f1 : ¬ ((p1 &&& (8 : Int32)) = (0 : Int32)))).1) ?_
  refine XS.iconst X0.here hx rfl (hb hby at_71) ?_
  refine XS.goto X0.here hx rfl (pc0 := 72) (pc' := 76) rfl (hb hby at_72) (by decide) (by decide) ?_
  refine XS.istore X0.here hx rfl (hb hby at_76) rfl (l' := #[.val (.int p0), .val (.int p1), .val (.long p2), .second, .val (.int 4), .val (.int gq5), .val (.int gq6), .val (.int gq7), .val (.int 1), .unset, .unset, .unset, .unset, .unset, .unset]) rfl ?_
  show Steps p.tables e below (T0.setTop (mkF m 78 #[.val (.int p0), .val (.int p1), .val (.long p2), .second, .val (.int 4), .val (.int gq5), .val (.int gq6), .val (.int gq7), .val (.int 1), .unset, .unset, .unset, .unset, .unset, .unset] [])) _
  exact kt
def Q3_227 (Z : State) (c1_a : Addr) (c2_k : ClassId) (gx0 : Value) (gx1 : Value) (gx2 : Value) (h0 : Heap) (n0 : Nat) (v : Option Value) (h : Heap) (L : List Loc) : Prop := ∃ (bx225 : Addr), v = none ∧ Fr n0 L ∧ Keep h0 h [c1_a] ∧ Arv Z h c1_a c2_k (.object "java/lang/Long") (4 : Int32) [gx0, gx1, gx2, (.ref bx225)] .null
set_option maxRecDepth 65536 in
set_option maxHeartbeats 40000000 in
theorem rm3_226 (l : Launch) (Z : State) (a0 : Array Value) (hw : ∀ d ∈ tables_1, d.before a0 Z = true) (ws : List Jvm.Cond) (c0_a : Addr) (jam : Int64) (c1_a : Addr) (c2_k : ClassId) (gx0 : Value) (gx1 : Value) (gx2 : Value) (a_cache : Addr) (h0 : Heap) (n0 : Nat) (Z0 : n0 ≤ h0.size) (f1 : F_0 Z h0 c0_a (.ref c1_a)) (f2 : Arv Z h0 c1_a c2_k (.object "java/lang/Long") (4 : Int32) [gx0, gx1, gx2, .null] .null) (f3 : ¬ ((lcmpW jam (0 : Int64)) < (0 : Int32))) (f4 : ¬ ((0 : Int32) < (lcmpW jam (9223372036854775807 : Int64)))) (f5 : ¬ ((lcmpW jam (-128 : Int64)) < (0 : Int32))) (f6 : S_0 Z h0 (.ref a_cache)) (f7 : OwnAll Z h0 a_cache "java/lang/Long") (f8 : n0 ≤ c1_a) (f9 : Ovr Z c2_k "java/lang/Long") :
    MetFree l M_5 (head1 (Jvm.Cond.code M_5 prog_14_method_2_code 6 none :: ws) R_4_1_1_55) (fun a U => a = #[(.ref c0_a), (.int 4), (.long jam), (.long 9223372036854775807)] ∧ Z.Warmed39 U.vm ∧ U.heap = h0) (fun _ _ _ _ _ => True) (fun _ U o U' => ∃ v L, o = .returned v ∧ Q3_227 Z c1_a c2_k gx0 gx1 gx2 h0 n0 v U'.heap L ∧ FrameEnd U o U' L R_4_1_1_55.cells R_4_1_1_55.slots) := by
  refine MetFree.of_bodySF (plainFor_of_name pn_hexwright_engine_SealedBids) hisR ?_
  intro p e s m args below meth c s₁ Bd hml0 hP hK
  obtain ⟨rfl, hZ, hh⟩ := hP
  have hx := Bd.exec
  have hby := Bd.bytes
  have hml : c.maxLocals = 6 := hml0
  have hown : s.vm.findClass "hexwright/engine/SealedBids" = some m.cls := findClass_of_methodNamed Bd.named
  have hnm := (name_of_methodNamed Bd.named Bd.method).1
  have X0 : Stand p l e R_4_1_1_55 s m #[(.ref c0_a), (.int 4), (.long jam), (.long 9223372036854775807)] below meth c s₁ [] 0 0 := Stand.of_body Bd
  have e0 : s₁.heap = h0 := by rw [← hh, Bd.state]; rfl
  have N0 := Fr.nil n0
  obtain ⟨T1, X1, e1, st1⟩ := getF X0 hx hZ hown (host := "") (Or.inl (tw_12 hw)) Via.refl e0 f1 (g := (mkF m 1 #[.val (.ref c0_a), .val (.int 4), .val (.long jam), .second, .val (.long 9223372036854775807), .second] [(.ref c0_a)])) rfl rfl (hb hby d3_1)
  have va2 := f2
  obtain ⟨cl2, Ar2, -, S2, -, H2, -⟩ := va2
  have hin2 : ¬ ((3 : Int32) < 0 ∨ cl2.slots.size ≤ ((3 : Int32)).toNatClampNeg) := inb_of S2 ⟨by decide, by decide⟩
  have hat2 : cl2.slots[((3 : Int32)).toNatClampNeg]? = some .null := H2 _ (Nat.lt_of_not_le fun y => hin2 (Or.inr y))
  obtain ⟨T3, X3, e3, st3⟩ := getF X1 hx hZ hown (host := "") (Or.inl (tw_12 hw)) Via.refl e1 f1 (g := (mkF m 56 #[.val (.ref c0_a), .val (.int 4), .val (.long jam), .second, .val (.long 9223372036854775807), .second] [(.ref c0_a)])) rfl rfl (hb hby d3_56)
  -- pc 63: java/lang/Long.valueOf
  obtain ⟨_, _, ⟨T4, L4, k4, n4⟩, -, X4, ⟨Lc4, hQ4, l4, y4, z4⟩, st4⟩ := Jvm.LawKit.callS X3 hx (y := M_4) hown (mvT hZ (tw_19 hw)) (mvT hZ (tw_20 hw)) (mvT hZ (tw_21 hw)) (mvT hZ (tw_22 hw)) (by decide) (backOf (W := 2) (rmB_38 l Z a0 hw [] jam a_cache h0 n0 Z0 f5 f6 f7) hZ (tw_22 hw) (tw_21 hw) (by decide) (by decide)) (g := (mkF m 63 #[.val (.ref c0_a), .val (.int 4), .val (.long jam), .second, .val (.long 9223372036854775807), .second] [(.long jam), (.int 3), (.ref c1_a)])) rfl (by rw [hml]; rfl) (argsL := [(.long jam)]) (rest := [(.int 3), (.ref c1_a)]) (lenOf pd_4 rfl) rfl (by show 2 * 0 + _ ≤ _; exact Nat.le_of_eq rfl) (hb hby d3_63) (fun _ _ => ⟨rfl, e3, (by decide : 0 + 1 ≤ _), (by decide : 0 + 1 ≤ _)⟩)
  dsimp only [Pt.U, Pt.locs, Pt.cells, Pt.slots] at X4 l4 y4 z4 st4 hQ4
  subst l4 y4 z4
  obtain ⟨bx225, rfl, Nq4, K4, o4_0⟩ := hQ4
  have N4 := Fr.app N0 Nq4
  have KK4 : Keep h0 T4.heap [c1_a] := (Keep.refl h0 [c1_a]).trans K4 (fun x hx => nomatch hx)
  have u5 : Arv Z T4.heap c1_a c2_k (.object "java/lang/Long") (4 : Int32) [gx0, gx1, gx2, .null] .null := Arv.keep f2 K4 List.not_mem_nil
  have va6 := u5
  obtain ⟨cl6, Ar6, q6, S6, N6_, H6, G6⟩ := va6
  have hin6 : ¬ ((3 : Int32) < 0 ∨ cl6.slots.size ≤ ((3 : Int32)).toNatClampNeg) := inb_of S6 ⟨by decide, by decide⟩
  obtain ⟨T7, h7, X7, e7, W7, st7⟩ := stR X4 hx hZ rfl Ar6 (j := (3 : Int32)) hin6 rfl (Sto.ofV Ar6 q6 f9 (Ins.self o4_0)) (g := (mkF m 66 #[.val (.ref c0_a), .val (.int 4), .val (.long jam), .second, .val (.long 9223372036854775807), .second] [(.ref bx225), (.int 3), (.ref c1_a)])) rfl rfl (hb hby d3_66)
  have Vw7 : Arv Z h7 c1_a c2_k (.object "java/lang/Long") (4 : Int32) [gx0, gx1, gx2, (.ref bx225)] .null := Arv.set Ar6 q6 S6 N6_ H6 G6 rfl W7 3 rfl (Nat.le_of_ble_eq_true rfl)
  have KK7 : Keep h0 h7 [c1_a] := KK4.wr W7 (Or.inl (List.mem_of_getElem? (i := 0) rfl))
  have N7 := Fr.snoc X7 N4 f8
  obtain ⟨fs, hr, hrun, hended, hW, hsame⟩ := X7.leave (v := none) (fun _ => rfl)
  refine ⟨_, _, castTop (ef3_RIJJ m c0_a (4 : Int32) jam (9223372036854775807 : Int64)) ?_, hrun, hended, _, _, rfl, ?_, ⟨_, rfl⟩, hW, hsame.mono (by decide) (by decide)⟩
  · show Steps p.tables e below (s₁.setTop (mkF m 0 #[.val (.ref c0_a), .val (.int 4), .val (.long jam), .second, .val (.long 9223372036854775807), .second] [])) _
    refine XS.aloadN X0.here hx rfl (hb hby d3_0) rfl rfl ?_
    show Steps p.tables e below (s₁.setTop (mkF m 1 #[.val (.ref c0_a), .val (.int 4), .val (.long jam), .second, .val (.long 9223372036854775807), .second] [(.ref c0_a)])) _
    refine st1 _ ?_
    refine XS.iloadN X1.here hx rfl (hb hby d3_4) rfl ?_
    refine XS.iconst X1.here hx rfl (hb hby d3_5) ?_
    show Steps p.tables e below (T1.setTop (mkF m 6 #[.val (.ref c0_a), .val (.int 4), .val (.long jam), .second, .val (.long 9223372036854775807), .second] [(.int 1), (.int 4), (.ref c1_a)])) _
    refine XS.isub X1.here hx rfl (hb hby d3_6) rfl ?_
    show Steps p.tables e below (T1.setTop (mkF m 7 #[.val (.ref c0_a), .val (.int 4), .val (.long jam), .second, .val (.long 9223372036854775807), .second] [(.int ((4 : Int32) - (1 : Int32))), (.ref c1_a)])) _
    rw [show ((4 : Int32) - (1 : Int32)) = (3 : Int32) from by decide]
    show Steps p.tables e below (T1.setTop (mkF m 7 #[.val (.ref c0_a), .val (.int 4), .val (.long jam), .second, .val (.long 9223372036854775807), .second] [(.int 3), (.ref c1_a)])) _
    refine X1.aaload hx (j := (3 : Int32)) (v := .null) (by rw [e1]; exact Ar2.1) (State.isArrayOf_alike hZ.alike Ar2.2.1) rfl Ar2.2.2 hin2 hat2 (g := (mkF m 7 #[.val (.ref c0_a), .val (.int 4), .val (.long jam), .second, .val (.long 9223372036854775807), .second] [(.int 3), (.ref c1_a)])) rfl rfl (hb hby d3_7) _ ?_
    refine XS.ifnullYes X1.here hx rfl (pc0 := 8) (pc' := 25) rfl (hb hby d3_8) rfl (by decide) (by decide) ?_
    refine XS.lloadN X1.here hx rfl (hb hby d3_25) rfl ?_
    refine XS.lconst X1.here hx rfl (hb hby d3_26) ?_
    show Steps p.tables e below (T1.setTop (mkF m 27 #[.val (.ref c0_a), .val (.int 4), .val (.long jam), .second, .val (.long 9223372036854775807), .second] [(.long 0), (.long jam)])) _
    refine XS.lcmp X1.here hx rfl (hb hby d3_27) rfl ?_
    refine XS.ifNo X1.here hx rfl (hb hby d3_28) rfl ((if0 _ _).trans (flt (f3 : ¬ ((lcmpW jam (0 : Int64)) < (0 : Int32)))).1) ?_
    refine XS.lloadN X1.here hx rfl (hb hby d3_31) rfl ?_
    refine XS.lload X1.here hx rfl (hb hby d3_32) rfl ?_
    show Steps p.tables e below (T1.setTop (mkF m 34 #[.val (.ref c0_a), .val (.int 4), .val (.long jam), .second, .val (.long 9223372036854775807), .second] [(.long 9223372036854775807), (.long jam)])) _
    refine XS.lcmp X1.here hx rfl (hb hby d3_34) rfl ?_
    refine XS.ifYes X1.here hx rfl (pc0 := 35) (pc' := 55) rfl (hb hby d3_35) rfl ((if0 _ _).trans (flt (f4 : ¬ ((0 : Int32) < (lcmpW jam (9223372036854775807 : Int64))))).2.2.2) (by decide) (by decide) ?_
    refine XS.aloadN X1.here hx rfl (hb hby d3_55) rfl rfl ?_
    show Steps p.tables e below (T1.setTop (mkF m 56 #[.val (.ref c0_a), .val (.int 4), .val (.long jam), .second, .val (.long 9223372036854775807), .second] [(.ref c0_a)])) _
    refine st3 _ ?_
    refine XS.iloadN X3.here hx rfl (hb hby d3_59) rfl ?_
    refine XS.iconst X3.here hx rfl (hb hby d3_60) ?_
    show Steps p.tables e below (T3.setTop (mkF m 61 #[.val (.ref c0_a), .val (.int 4), .val (.long jam), .second, .val (.long 9223372036854775807), .second] [(.int 1), (.int 4), (.ref c1_a)])) _
    refine XS.isub X3.here hx rfl (hb hby d3_61) rfl ?_
    show Steps p.tables e below (T3.setTop (mkF m 62 #[.val (.ref c0_a), .val (.int 4), .val (.long jam), .second, .val (.long 9223372036854775807), .second] [(.int ((4 : Int32) - (1 : Int32))), (.ref c1_a)])) _
    rw [show ((4 : Int32) - (1 : Int32)) = (3 : Int32) from by decide]
    refine XS.lloadN X3.here hx rfl (hb hby d3_62) rfl ?_
    show Steps p.tables e below (T3.setTop (mkF m 63 #[.val (.ref c0_a), .val (.int 4), .val (.long jam), .second, .val (.long 9223372036854775807), .second] [(.long jam), (.int 3), (.ref c1_a)])) _
    refine st4 _ ?_
    show Steps p.tables e below (T4.setTop (mkF m 66 #[.val (.ref c0_a), .val (.int 4), .val (.long jam), .second, .val (.long 9223372036854775807), .second] [(.ref bx225), (.int 3), (.ref c1_a)])) _
    refine st7 _ ?_
    show Steps p.tables e below (T7.setTop (mkF m 67 #[.val (.ref c0_a), .val (.int 4), .val (.long jam), .second, .val (.long 9223372036854775807), .second] [])) _
    exact X7.returnOut hx Bd.returns (hb hby d3_67) hr
  · show Q3_227 Z c1_a c2_k gx0 gx1 gx2 h0 n0 _ T7.heap _
    rw [e7]
    exact ⟨bx225, rfl, N7, KK7, Vw7⟩
set_option maxRecDepth 65536 in
set_option maxHeartbeats 40000000 in
theorem sg146_229 {p : Program} {l : Launch} {e : Env} {s : State} {m : MethodId} {below : List Frame} {meth : Method} {c : Code} {T0 : State} {locs : List Loc} {Z : State} {a0 : Array Value} (p0 : Int32) (p1 : Int32) (p2 : Int64) (gq4 : Int32) (gq5 : Int32) (gq6 : Int32) (gq7 : Int32) (jam : Int64) (c0_a : Addr) (c1_a : Addr) (c2_k : ClassId) (gx0 : Value) (gx1 : Value) (gx2 : Value) (a_cache : Addr) {h0 : Heap} {n0 : Nat} (X0 : Stand p l e room_1 s m #[(.int p0), (.int p1), (.long p2)] below meth c T0 locs 5 8) (hx : p.tables.exec = Jvm.exec) (hZ : Z.Warmed39 s.vm) (hw : ∀ d ∈ tables_1, d.before a0 Z = true) (hby : c.code = code) (hml : c.maxLocals = 15) (hown : s.vm.findClass "hexwright/engine/SealedBidsHasBidPinLaw" = some m.cls) (e0 : T0.heap = h0) (N0 : Fr n0 locs) (Z0 : n0 ≤ h0.size) (f1 : F_0 Z h0 c0_a (.ref c1_a)) (f2 : Arv Z h0 c1_a c2_k (.object "java/lang/Long") (4 : Int32) [gx0, gx1, gx2, .null] .null) (f3 : ¬ ((lcmpW jam (0 : Int64)) < (0 : Int32))) (f4 : ¬ ((0 : Int32) < (lcmpW jam (9223372036854775807 : Int64)))) (f5 : ¬ ((lcmpW jam (-128 : Int64)) < (0 : Int32))) (f6 : S_0 Z h0 (.ref a_cache)) (f7 : OwnAll Z h0 a_cache "java/lang/Long") (f8 : n0 ≤ c1_a) (f9 : Ovr Z c2_k "java/lang/Long") (f10 : E_1 Z h0 c0_a) :
    ∃ (T : State) (h : Heap) (L : List Loc) (bx228 : Addr), Stand p l e room_1 s m #[(.int p0), (.int p1), (.long p2)] below meth c T L 6 9 ∧ T.heap = h ∧ Fr n0 L ∧ Keep h0 h [c1_a] ∧ Arv Z h c1_a c2_k (.object "java/lang/Long") (4 : Int32) [gx0, gx1, gx2, (.ref bx228)] .null ∧ (∀ target, Steps p.tables e below (T.setTop (mkF m 161 #[.val (.int p0), .val (.int p1), .val (.long p2), .second, .val (.int gq4), .val (.int gq5), .val (.int gq6), .val (.int gq7), .val (.int 1), .val (.long jam), .second, .val (.long 9223372036854775807), .second, .val (.ref c0_a), .unset] [])) target → Steps p.tables e below (T0.setTop (mkF m 146 #[.val (.int p0), .val (.int p1), .val (.long p2), .second, .val (.int gq4), .val (.int gq5), .val (.int gq6), .val (.int gq7), .val (.int 1), .val (.long jam), .second, .val (.long 9223372036854775807), .second, .val (.ref c0_a), .unset] [])) target) := by
  -- pc 158: hexwright/engine/SealedBids.bid
  obtain ⟨cq1, kq1, q1a, q1b, q1c⟩ := isOf hZ e0 f10
  obtain ⟨_, _, ⟨T1, L1, k1, n1⟩, -, X1, ⟨Lc1, hQ1, l1, y1, z1⟩, st1⟩ := X0.virtualBack hx (y := M_5) (z := M_5) hown (mvT hZ (tw_14 hw)) (mvT hZ (tw_15 hw)) (notFace_of_selects (args := #[]) (mvT hZ (tw_17 hw))) (mvT hZ (tw_17 hw)) (mvT hZ (tw_16 hw)) (by decide) (backOf (W := 0) (rm3_226 l Z a0 hw [] c0_a jam c1_a c2_k gx0 gx1 gx2 a_cache h0 n0 Z0 f1 f2 f3 f4 f5 f6 f7 f8 f9) hZ (tw_18 hw) (tw_3 hw) (by decide) (by decide)) q1a q1c (g := (mkF m 158 #[.val (.int p0), .val (.int p1), .val (.long p2), .second, .val (.int gq4), .val (.int gq5), .val (.int gq6), .val (.int gq7), .val (.int 1), .val (.long jam), .second, .val (.long 9223372036854775807), .second, .val (.ref c0_a), .unset] [(.long 9223372036854775807), (.long jam), (.int 4), (.ref c0_a)])) rfl (by rw [hml]; rfl) (Steps.refl _) (argsL := [(.int 4), (.long jam), (.long 9223372036854775807)]) (rest := []) (lenOf pd_5 rfl) rfl (by show 2 * 0 + _ ≤ _; exact Nat.le_of_eq rfl) (hb hby at_158) (fun _ _ => ⟨rfl, e0, (by decide : 5 + 1 ≤ _), (by decide : 8 + 1 ≤ _)⟩)
  dsimp only [Pt.U, Pt.locs, Pt.cells, Pt.slots] at X1 l1 y1 z1 st1 hQ1
  subst l1 y1 z1
  obtain ⟨bx228, rfl, Nq1, K1, o1_0⟩ := hQ1
  have N1 := Fr.app N0 Nq1
  have KK1 : Keep h0 T1.heap [c1_a] := (Keep.refl h0 [c1_a]).trans K1 (fun x hx => (List.mem_cons.mp hx).elim (fun q => q ▸ (Or.inl (List.mem_of_getElem? (i := 0) rfl))) (fun hx => nomatch hx))
  refine ⟨T1, _, _, bx228, (X1.more (by decide) (by decide)), rfl, N1, KK1, o1_0, fun target kt => ?_⟩
  show Steps p.tables e below (T0.setTop (mkF m 146 #[.val (.int p0), .val (.int p1), .val (.long p2), .second, .val (.int gq4), .val (.int gq5), .val (.int gq6), .val (.int gq7), .val (.int 1), .val (.long jam), .second, .val (.long 9223372036854775807), .second, .val (.ref c0_a), .unset] [])) _
  refine XS.iload X0.here hx rfl (hb hby at_146) rfl ?_
  refine XS.ifNo X0.here hx rfl (hb hby at_148) rfl (by decide) ?_
  refine XS.aload X0.here hx rfl (hb hby at_151) rfl rfl ?_
  refine XS.iconst X0.here hx rfl (hb hby at_153) ?_
  refine XS.lload X0.here hx rfl (hb hby at_154) rfl ?_
  show Steps p.tables e below (T0.setTop (mkF m 156 #[.val (.int p0), .val (.int p1), .val (.long p2), .second, .val (.int gq4), .val (.int gq5), .val (.int gq6), .val (.int gq7), .val (.int 1), .val (.long jam), .second, .val (.long 9223372036854775807), .second, .val (.ref c0_a), .unset] [(.long jam), (.int 4), (.ref c0_a)])) _
  refine XS.lload X0.here hx rfl (hb hby at_156) rfl ?_
  show Steps p.tables e below (T0.setTop (mkF m 158 #[.val (.int p0), .val (.int p1), .val (.long p2), .second, .val (.int gq4), .val (.int gq5), .val (.int gq6), .val (.int gq7), .val (.int 1), .val (.long jam), .second, .val (.long 9223372036854775807), .second, .val (.ref c0_a), .unset] [(.long 9223372036854775807), (.long jam), (.int 4), (.ref c0_a)])) _
  refine st1.trans ?_
  show Steps p.tables e below (T1.setTop (mkF m 161 #[.val (.int p0), .val (.int p1), .val (.long p2), .second, .val (.int gq4), .val (.int gq5), .val (.int gq6), .val (.int gq7), .val (.int 1), .val (.long jam), .second, .val (.long 9223372036854775807), .second, .val (.ref c0_a), .unset] [])) _
  exact kt
set_option maxRecDepth 65536 in
set_option maxHeartbeats 40000000 in
theorem rm5_231 (l : Launch) (Z : State) (a0 : Array Value) (hw : ∀ d ∈ tables_1, d.before a0 Z = true) (ws : List Jvm.Cond) (c0_a : Addr) (c1_a : Addr) (c2_k : ClassId) (gx0 : Value) (gx1 : Value) (gx2 : Value) (c3_a : Addr) (h0 : Heap) (n0 : Nat) (Z0 : n0 ≤ h0.size) (f1 : F_0 Z h0 c0_a (.ref c1_a)) (f2 : Arv Z h0 c1_a c2_k (.object "java/lang/Long") (4 : Int32) [gx0, gx1, gx2, (.ref c3_a)] .null) :
    MetFree l M_1 (head1 (Jvm.Cond.code M_1 prog_14_method_4_code 2 (some .boolean) :: ws) R_0_0_0_0) (fun a U => a = #[(.ref c0_a), (.int 4)] ∧ Z.Warmed39 U.vm ∧ U.heap = h0) (fun _ _ _ _ _ => True) (fun _ U o U' => ∃ v L, o = .returned v ∧ QP (some (.int 1)) h0 n0 v U'.heap L ∧ FrameEnd U o U' L R_0_0_0_0.cells R_0_0_0_0.slots) := by
  refine MetFree.of_bodySF (plainFor_of_name pn_hexwright_engine_SealedBids) hisR ?_
  intro p e s m args below meth c s₁ Bd hml0 hP hK
  obtain ⟨rfl, hZ, hh⟩ := hP
  have hx := Bd.exec
  have hby := Bd.bytes
  have hml : c.maxLocals = 2 := hml0
  have hown : s.vm.findClass "hexwright/engine/SealedBids" = some m.cls := findClass_of_methodNamed Bd.named
  have hnm := (name_of_methodNamed Bd.named Bd.method).1
  have X0 : Stand p l e R_0_0_0_0 s m #[(.ref c0_a), (.int 4)] below meth c s₁ [] 0 0 := Stand.of_body Bd
  have e0 : s₁.heap = h0 := by rw [← hh, Bd.state]; rfl
  have N0 := Fr.nil n0
  obtain ⟨T1, X1, e1, st1⟩ := getF X0 hx hZ hown (host := "") (Or.inl (tw_12 hw)) Via.refl e0 f1 (g := (mkF m 1 #[.val (.ref c0_a), .val (.int 4)] [(.ref c0_a)])) rfl rfl (hb hby d5_1)
  have va2 := f2
  obtain ⟨cl2, Ar2, -, S2, -, H2, -⟩ := va2
  have hin2 : ¬ ((3 : Int32) < 0 ∨ cl2.slots.size ≤ ((3 : Int32)).toNatClampNeg) := inb_of S2 ⟨by decide, by decide⟩
  have hat2 : cl2.slots[((3 : Int32)).toNatClampNeg]? = some (.ref c3_a) := H2 _ (Nat.lt_of_not_le fun y => hin2 (Or.inr y))
  obtain ⟨fs, hr, hrun, hended, hW, hsame⟩ := X1.leave (v := (some (.int 1))) (fun h => by rw [Bd.returns] at h; cases h)
  refine ⟨_, _, castTop (ef5_RI m c0_a (4 : Int32)) ?_, hrun, hended, _, _, rfl, ?_, ⟨_, rfl⟩, hW, hsame.mono (by decide) (by decide)⟩
  · show Steps p.tables e below (s₁.setTop (mkF m 0 #[.val (.ref c0_a), .val (.int 4)] [])) _
    refine XS.aloadN X0.here hx rfl (hb hby d5_0) rfl rfl ?_
    show Steps p.tables e below (s₁.setTop (mkF m 1 #[.val (.ref c0_a), .val (.int 4)] [(.ref c0_a)])) _
    refine st1 _ ?_
    refine XS.iloadN X1.here hx rfl (hb hby d5_4) rfl ?_
    refine XS.iconst X1.here hx rfl (hb hby d5_5) ?_
    show Steps p.tables e below (T1.setTop (mkF m 6 #[.val (.ref c0_a), .val (.int 4)] [(.int 1), (.int 4), (.ref c1_a)])) _
    refine XS.isub X1.here hx rfl (hb hby d5_6) rfl ?_
    show Steps p.tables e below (T1.setTop (mkF m 7 #[.val (.ref c0_a), .val (.int 4)] [(.int ((4 : Int32) - (1 : Int32))), (.ref c1_a)])) _
    rw [show ((4 : Int32) - (1 : Int32)) = (3 : Int32) from by decide]
    show Steps p.tables e below (T1.setTop (mkF m 7 #[.val (.ref c0_a), .val (.int 4)] [(.int 3), (.ref c1_a)])) _
    refine X1.aaload hx (j := (3 : Int32)) (v := (.ref c3_a)) (by rw [e1]; exact Ar2.1) (State.isArrayOf_alike hZ.alike Ar2.2.1) rfl Ar2.2.2 hin2 hat2 (g := (mkF m 7 #[.val (.ref c0_a), .val (.int 4)] [(.int 3), (.ref c1_a)])) rfl rfl (hb hby d5_7) _ ?_
    refine XS.ifnullNo X1.here hx rfl (hb hby d5_8) rfl ?_
    refine XS.iconst X1.here hx rfl (hb hby d5_11) ?_
    refine XS.goto X1.here hx rfl (pc0 := 12) (pc' := 16) rfl (hb hby d5_12) (by decide) (by decide) ?_
    show Steps p.tables e below (T1.setTop (mkF m 16 #[.val (.ref c0_a), .val (.int 4)] [(.int 1)])) _
    exact retN X1 hx (t := .boolean) Bd.returns (by simp) (hb hby d5_16) hr
  · show QP (some (.int 1)) h0 n0 _ T1.heap _
    rw [e1]
    exact ⟨rfl, N0, rfl⟩
set_option maxRecDepth 65536 in
set_option maxHeartbeats 40000000 in
theorem sg237_232 {p : Program} {l : Launch} {e : Env} {s : State} {m : MethodId} {below : List Frame} {meth : Method} {c : Code} {T0 : State} {locs : List Loc} {Z : State} {a0 : Array Value} (p0 : Int32) (p1 : Int32) (p2 : Int64) (gq5 : Int32) (gq6 : Int32) (gq7 : Int32) (jam : Int64) (gq11 : Int64) (c0_a : Addr) (c1_a : Addr) (c2_k : ClassId) (gx0 : Value) (gx1 : Value) (gx2 : Value) (c3_a : Addr) {h0 : Heap} {n0 : Nat} (X0 : Stand p l e room_1 s m #[(.int p0), (.int p1), (.long p2)] below meth c T0 locs 6 9) (hx : p.tables.exec = Jvm.exec) (hZ : Z.Warmed39 s.vm) (hw : ∀ d ∈ tables_1, d.before a0 Z = true) (hby : c.code = code) (hml : c.maxLocals = 15) (hown : s.vm.findClass "hexwright/engine/SealedBidsHasBidPinLaw" = some m.cls) (e0 : T0.heap = h0) (N0 : Fr n0 locs) (Z0 : n0 ≤ h0.size) (f1 : F_0 Z h0 c0_a (.ref c1_a)) (f2 : Arv Z h0 c1_a c2_k (.object "java/lang/Long") (4 : Int32) [gx0, gx1, gx2, (.ref c3_a)] .null) (f3 : E_1 Z h0 c0_a) :
    ∃ (T : State) (L : List Loc), Stand p l e room_1 s m #[(.int p0), (.int p1), (.long p2)] below meth c T L 6 9 ∧ T.heap = h0 ∧ Fr n0 L ∧ (∀ target, Steps p.tables e below (T.setTop (mkF m 266 #[.val (.int p0), .val (.int p1), .val (.long p2), .second, .val (.int 4), .val (.int gq5), .val (.int gq6), .val (.int gq7), .val (.int 1), .val (.long jam), .second, .val (.long gq11), .second, .val (.ref c0_a), .val (.int 1)] [])) target → Steps p.tables e below (T0.setTop (mkF m 237 #[.val (.int p0), .val (.int p1), .val (.long p2), .second, .val (.int 4), .val (.int gq5), .val (.int gq6), .val (.int gq7), .val (.int 1), .val (.long jam), .second, .val (.long gq11), .second, .val (.ref c0_a), .val (.int 1)] [])) target) := by
  -- pc 251: hexwright/engine/SealedBids.hasBid
  obtain ⟨cq1, kq1, q1a, q1b, q1c⟩ := isOf hZ e0 f3
  obtain ⟨_, _, ⟨T1, L1, k1, n1⟩, -, X1, ⟨Lc1, hQ1, l1, y1, z1⟩, st1⟩ := X0.virtualBack hx (y := M_1) (z := M_1) hown (mvT hZ (tw_28 hw)) (mvT hZ (tw_29 hw)) (notFace_of_selects (args := #[]) (mvT hZ (tw_31 hw))) (mvT hZ (tw_31 hw)) (mvT hZ (tw_30 hw)) (by decide) (backOf (W := 0) (rm5_231 l Z a0 hw [] c0_a c1_a c2_k gx0 gx1 gx2 c3_a h0 n0 Z0 f1 f2) hZ (tw_32 hw) (tw_3 hw) (by decide) (by decide)) q1a q1c (g := (mkF m 251 #[.val (.int p0), .val (.int p1), .val (.long p2), .second, .val (.int 4), .val (.int gq5), .val (.int gq6), .val (.int gq7), .val (.int 1), .val (.long jam), .second, .val (.long gq11), .second, .val (.ref c0_a), .val (.int 1)] [(.int 4), (.ref c0_a)])) rfl (by rw [hml]; rfl) (Steps.refl _) (argsL := [(.int 4)]) (rest := []) (lenOf pd_1 rfl) rfl (by show 2 * 0 + _ ≤ _; exact Nat.le_of_eq rfl) (hb hby at_251) (fun _ _ => ⟨rfl, e0, (by decide : 6 + 0 ≤ _), (by decide : 9 + 0 ≤ _)⟩)
  dsimp only [Pt.U, Pt.locs, Pt.cells, Pt.slots] at X1 l1 y1 z1 st1 hQ1
  subst l1 y1 z1
  obtain ⟨rfl, Nq1, e1⟩ := hQ1
  have N1 := Fr.app N0 Nq1
  refine ⟨T1, _, X1, e1, N1, fun target kt => ?_⟩
  show Steps p.tables e below (T0.setTop (mkF m 237 #[.val (.int p0), .val (.int p1), .val (.long p2), .second, .val (.int 4), .val (.int gq5), .val (.int gq6), .val (.int gq7), .val (.int 1), .val (.long jam), .second, .val (.long gq11), .second, .val (.ref c0_a), .val (.int 1)] [])) _
  refine XS.iload X0.here hx rfl (hb hby at_237) rfl ?_
  refine XS.iconst X0.here hx rfl (hb hby at_239) ?_
  refine XS.icmpNo X0.here hx rfl (hb hby at_240) rfl (by decide) ?_
  refine XS.iload X0.here hx rfl (hb hby at_243) rfl ?_
  refine XS.ifNo X0.here hx rfl (hb hby at_245) rfl (by decide) ?_
  show Steps p.tables e below (T0.setTop (mkF m 248 #[.val (.int p0), .val (.int p1), .val (.long p2), .second, .val (.int 4), .val (.int gq5), .val (.int gq6), .val (.int gq7), .val (.int 1), .val (.long jam), .second, .val (.long gq11), .second, .val (.ref c0_a), .val (.int 1)] [])) _
  refine XS.aload X0.here hx rfl (hb hby at_248) rfl rfl ?_
  refine XS.iconst X0.here hx rfl (hb hby at_250) ?_
  show Steps p.tables e below (T0.setTop (mkF m 251 #[.val (.int p0), .val (.int p1), .val (.long p2), .second, .val (.int 4), .val (.int gq5), .val (.int gq6), .val (.int gq7), .val (.int 1), .val (.long jam), .second, .val (.long gq11), .second, .val (.ref c0_a), .val (.int 1)] [(.int 4), (.ref c0_a)])) _
  refine st1.trans ?_
  refine XS.iload X1.here hx rfl (hb hby at_254) rfl ?_
  refine XS.icmpNo X1.here hx rfl (hb hby at_256) rfl (by decide) ?_
  refine XS.iconst X1.here hx rfl (hb hby at_259) ?_
  refine XS.goto X1.here hx rfl (pc0 := 260) (pc' := 264) rfl (hb hby at_260) (by decide) (by decide) ?_
  show Steps p.tables e below (T1.setTop (mkF m 264 #[.val (.int p0), .val (.int p1), .val (.long p2), .second, .val (.int 4), .val (.int gq5), .val (.int gq6), .val (.int gq7), .val (.int 1), .val (.long jam), .second, .val (.long gq11), .second, .val (.ref c0_a), .val (.int 1)] [(.int 1)])) _
  refine XS.istore X1.here hx rfl (hb hby at_264) rfl (l' := #[.val (.int p0), .val (.int p1), .val (.long p2), .second, .val (.int 4), .val (.int gq5), .val (.int gq6), .val (.int gq7), .val (.int 1), .val (.long jam), .second, .val (.long gq11), .second, .val (.ref c0_a), .val (.int 1)]) rfl ?_
  show Steps p.tables e below (T1.setTop (mkF m 266 #[.val (.int p0), .val (.int p1), .val (.long p2), .second, .val (.int 4), .val (.int gq5), .val (.int gq6), .val (.int gq7), .val (.int 1), .val (.long jam), .second, .val (.long gq11), .second, .val (.ref c0_a), .val (.int 1)] [])) _
  exact kt
set_option maxRecDepth 65536 in
set_option maxHeartbeats 40000000 in
theorem rm0_233 (l : Launch) (Z : State) (a0 : Array Value) (hw : ∀ d ∈ tables_1, d.before a0 Z = true) (ws : List Jvm.Cond) (p0 : Int32) (p1 : Int32) (p2 : Int64) (jam : Int64) (a_cache : Addr) (h0 : Heap) (n0 : Nat) (Z0 : n0 ≤ h0.size) (f1 : (p0 &&& (3 : Int32)) = (3 : Int32)) (f2 : (p1 &&& (1 : Int32)) = (0 : Int32)) (f3 : (p1 &&& (2 : Int32)) = (0 : Int32)) (f4 : (p1 &&& (4 : Int32)) = (0 : Int32)) (f5 : ¬ ((p1 &&& (8 : Int32)) = (0 : Int32))) (f6 : (p2 &&& (9223372036854775807 : Int64)) = jam) (f7 : ¬ ((lcmpW jam (0 : Int64)) < (0 : Int32))) (f8 : ¬ ((0 : Int32) < (lcmpW jam (9223372036854775807 : Int64)))) (f9 : ¬ ((lcmpW jam (-128 : Int64)) < (0 : Int32))) (f10 : S_0 Z h0 (.ref a_cache)) (f11 : OwnAll Z h0 a_cache "java/lang/Long") :
    MetFree l x (head1 (Jvm.Cond.code x code maxLocals ret :: ws) room_1) (fun a U => a = #[(.int p0), (.int p1), (.long p2)] ∧ Z.Warmed39 U.vm ∧ U.heap = h0) (fun _ _ _ _ _ => True) (fun _ U o U' => ∃ v L, o = .returned v ∧ QT n0 v U'.heap L ∧ FrameEnd U o U' L room_1.cells room_1.slots) := by
  refine MetFree.of_bodySF (plainFor_of_name pn_hexwright_engine_SealedBidsHasBidPinLaw) hisR ?_
  intro p e s m args below meth c s₁ Bd hml0 hP hK
  obtain ⟨rfl, hZ, hh⟩ := hP
  have hx := Bd.exec
  have hby := Bd.bytes
  have hml : c.maxLocals = 15 := hml0
  have hown : s.vm.findClass "hexwright/engine/SealedBidsHasBidPinLaw" = some m.cls := findClass_of_methodNamed Bd.named
  have hnm := (name_of_methodNamed Bd.named Bd.method).1
  have X0 : Stand p l e room_1 s m #[(.int p0), (.int p1), (.long p2)] below meth c s₁ [] 0 0 := Stand.of_body Bd
  have e0 : s₁.heap = h0 := by rw [← hh, Bd.state]; rfl
  have N0 := Fr.nil n0
  obtain ⟨T1, L1, X1, e1, N1, st1⟩ := sg7_1 p0 p1 p2 (4 : Int32) X0 hx hZ hw hby hml hown e0 N0 Z0 f2
  obtain ⟨T2, L2, X2, e2, N2, st2⟩ := sg20_194 p0 p1 p2 (0 : Int32) X1 hx hZ hw hby hml hown e1 N1 Z0 f3
  obtain ⟨T3, L3, X3, e3, N3, st3⟩ := sg39_195 p0 p1 p2 (0 : Int32) (0 : Int32) X2 hx hZ hw hby hml hown e2 N2 Z0 f4
  obtain ⟨T4, L4, X4, e4, N4, st4⟩ := sg58_221 p0 p1 p2 (0 : Int32) (0 : Int32) (0 : Int32) X3 hx hZ hw hby hml hown e3 N3 Z0 f5
  obtain ⟨T5, L5, X5, e5, N5, st5⟩ := sg78_5 p0 p1 p2 (4 : Int32) (0 : Int32) (0 : Int32) (0 : Int32) (1 : Int32) jam X4 hx hZ hw hby hml hown e4 N4 Z0 f6
  obtain ⟨T6, h6, L6, b222, b223, kc224, X6, e6, N6, K6, le_b222, le_b223, o6_0, o6_1, o6_2, o6_3, o6_4, st6⟩ := sg90_204 p0 p1 p2 (0 : Int32) (0 : Int32) (0 : Int32) (1 : Int32) jam (9223372036854775807 : Int64) X5 hx hZ hw hby hml hown e5 N5 Z0 
  have sz_b222 : h0.size ≤ b222 := Nat.le_trans (Nat.le_refl _) le_b222
  have g_b222 : n0 ≤ b222 := Nat.le_trans Z0 sz_b222
  have sz_b223 : h0.size ≤ b223 := Nat.le_trans (Nat.le_refl _) le_b223
  have g_b223 : n0 ≤ b223 := Nat.le_trans Z0 sz_b223
  have KK6 : Keep h0 h6 [] := (Keep.refl h0 []).trans K6 (fun x hx => nomatch hx)
  obtain ⟨T7, L7, X7, e7, N7, st7⟩ := sg101_208 p0 p1 p2 (4 : Int32) (0 : Int32) (0 : Int32) (1 : Int32) jam b222 X6 hx hZ hw hby hml hown e6 N6 (Nat.le_trans Z0 KK6.1) 
  obtain ⟨T8, L8, X8, e8, N8, st8⟩ := sg116_209 p0 p1 p2 (4 : Int32) (0 : Int32) (0 : Int32) (1 : Int32) jam b222 X7 hx hZ hw hby hml hown e7 N7 (Nat.le_trans Z0 KK6.1) 
  obtain ⟨T9, L9, X9, e9, N9, st9⟩ := sg131_210 p0 p1 p2 (4 : Int32) (0 : Int32) (0 : Int32) (1 : Int32) jam b222 X8 hx hZ hw hby hml hown e8 N8 (Nat.le_trans Z0 KK6.1) 
  have u11 : S_0 Z h6 (.ref a_cache) := own_sta_keep f10 K6 (fun _ q => nomatch q)
  have u12 : OwnAll Z h6 a_cache "java/lang/Long" := own_all_keep f11 K6 List.not_mem_nil
  obtain ⟨T10, h10, L10, bx230, X10, e10, N10, K10, o10_0, st10⟩ := sg146_229 p0 p1 p2 (4 : Int32) (0 : Int32) (0 : Int32) (0 : Int32) jam b222 b223 kc224 .null .null .null a_cache X9 hx hZ hw hby hml hown e9 N9 (Nat.le_trans Z0 KK6.1) o6_1 o6_2 f7 f8 f9 u11 u12 g_b223 o6_3 o6_0
  have KK10 : Keep h0 h10 [] := KK6.trans K10 (fun x hx => (List.mem_cons.mp hx).elim (fun q => q ▸ (Or.inr sz_b223)) (fun hx => nomatch hx))
  have u14 : F_0 Z h10 b222 (.ref b223) := Fld.keep o6_1 K10 (own_notin o6_4 List.not_mem_nil)
  have u15 : E_1 Z h10 b222 := Exa.keep o6_0 K10
  obtain ⟨T13, L13, X13, e13, N13, st13⟩ := sg161_213 p0 p1 p2 (4 : Int32) (0 : Int32) (0 : Int32) (1 : Int32) jam (9223372036854775807 : Int64) b222 b223 kc224 .null .null (.ref bx230) X10 hx hZ hw hby hml hown e10 N10 (Nat.le_trans Z0 KK10.1) u14 o10_0 u15
  obtain ⟨T16, L16, X16, e16, N16, st16⟩ := sg179_215 p0 p1 p2 (0 : Int32) (0 : Int32) (1 : Int32) jam (9223372036854775807 : Int64) b222 b223 kc224 .null .null (.ref bx230) X13 hx hZ hw hby hml hown e13 N13 (Nat.le_trans Z0 KK10.1) u14 o10_0 u15
  obtain ⟨T17, L17, X17, e17, N17, st17⟩ := sg208_217 p0 p1 p2 (0 : Int32) (0 : Int32) (1 : Int32) jam (9223372036854775807 : Int64) b222 b223 kc224 .null .null (.ref bx230) X16 hx hZ hw hby hml hown e16 N16 (Nat.le_trans Z0 KK10.1) u14 o10_0 u15
  obtain ⟨T18, L18, X18, e18, N18, st18⟩ := sg237_232 p0 p1 p2 (0 : Int32) (0 : Int32) (0 : Int32) jam (9223372036854775807 : Int64) b222 b223 kc224 .null .null .null bx230 X17 hx hZ hw hby hml hown e17 N17 (Nat.le_trans Z0 KK10.1) u14 o10_0 u15
  obtain ⟨fs, hr, hrun, hended, hW, hsame⟩ := X18.leave (v := (some (.int 1))) (fun h => by rw [Bd.returns] at h; cases h)
  refine ⟨_, _, castTop (ef0_IIJ m p0 p1 p2) ?_, hrun, hended, _, _, rfl, ?_, ⟨_, rfl⟩, hW, hsame.mono (by decide) (by decide)⟩
  · show Steps p.tables e below (s₁.setTop (mkF m 0 #[.val (.int p0), .val (.int p1), .val (.long p2), .second, .unset, .unset, .unset, .unset, .unset, .unset, .unset, .unset, .unset, .unset, .unset] [])) _
    refine XS.iloadN X0.here hx rfl (hb hby at_0) rfl ?_
    refine XS.iconst X0.here hx rfl (hb hby at_1) ?_
    show Steps p.tables e below (s₁.setTop (mkF m 2 #[.val (.int p0), .val (.int p1), .val (.long p2), .second, .unset, .unset, .unset, .unset, .unset, .unset, .unset, .unset, .unset, .unset, .unset] [(.int 3), (.int p0)])) _
    refine XS.iand X0.here hx rfl (hb hby at_2) rfl ?_
    show Steps p.tables e below (s₁.setTop (mkF m 3 #[.val (.int p0), .val (.int p1), .val (.long p2), .second, .unset, .unset, .unset, .unset, .unset, .unset, .unset, .unset, .unset, .unset, .unset] [(.int (p0 &&& (3 : Int32)))])) _
    rw [f1]
    refine XS.iconst X0.here hx rfl (hb hby at_3) ?_
    show Steps p.tables e below (s₁.setTop (mkF m 4 #[.val (.int p0), .val (.int p1), .val (.long p2), .second, .unset, .unset, .unset, .unset, .unset, .unset, .unset, .unset, .unset, .unset, .unset] [(.int 1), (.int 3)])) _
    refine XS.iadd X0.here hx rfl (hb hby at_4) rfl ?_
    show Steps p.tables e below (s₁.setTop (mkF m 5 #[.val (.int p0), .val (.int p1), .val (.long p2), .second, .unset, .unset, .unset, .unset, .unset, .unset, .unset, .unset, .unset, .unset, .unset] [(.int ((3 : Int32) + (1 : Int32)))])) _
    rw [show ((3 : Int32) + (1 : Int32)) = (4 : Int32) from by decide]
    refine XS.istore X0.here hx rfl (hb hby at_5) rfl (l' := #[.val (.int p0), .val (.int p1), .val (.long p2), .second, .val (.int 4), .unset, .unset, .unset, .unset, .unset, .unset, .unset, .unset, .unset, .unset]) rfl ?_
    show Steps p.tables e below (s₁.setTop (mkF m 7 #[.val (.int p0), .val (.int p1), .val (.long p2), .second, .val (.int 4), .unset, .unset, .unset, .unset, .unset, .unset, .unset, .unset, .unset, .unset] [])) _
    refine st1 _ ?_
    show Steps p.tables e below (T1.setTop (mkF m 20 #[.val (.int p0), .val (.int p1), .val (.long p2), .second, .val (.int 4), .val (.int 0), .unset, .unset, .unset, .unset, .unset, .unset, .unset, .unset, .unset] [])) _
    refine st2 _ ?_
    show Steps p.tables e below (T2.setTop (mkF m 39 #[.val (.int p0), .val (.int p1), .val (.long p2), .second, .val (.int 4), .val (.int 0), .val (.int 0), .unset, .unset, .unset, .unset, .unset, .unset, .unset, .unset] [])) _
    refine st3 _ ?_
    show Steps p.tables e below (T3.setTop (mkF m 58 #[.val (.int p0), .val (.int p1), .val (.long p2), .second, .val (.int 4), .val (.int 0), .val (.int 0), .val (.int 0), .unset, .unset, .unset, .unset, .unset, .unset, .unset] [])) _
    refine st4 _ ?_
    show Steps p.tables e below (T4.setTop (mkF m 78 #[.val (.int p0), .val (.int p1), .val (.long p2), .second, .val (.int 4), .val (.int 0), .val (.int 0), .val (.int 0), .val (.int 1), .unset, .unset, .unset, .unset, .unset, .unset] [])) _
    refine st5 _ ?_
    show Steps p.tables e below (T5.setTop (mkF m 90 #[.val (.int p0), .val (.int p1), .val (.long p2), .second, .val (.int 4), .val (.int 0), .val (.int 0), .val (.int 0), .val (.int 1), .val (.long jam), .second, .val (.long 9223372036854775807), .second, .unset, .unset] [])) _
    refine st6 _ ?_
    show Steps p.tables e below (T6.setTop (mkF m 101 #[.val (.int p0), .val (.int p1), .val (.long p2), .second, .val (.int 4), .val (.int 0), .val (.int 0), .val (.int 0), .val (.int 1), .val (.long jam), .second, .val (.long 9223372036854775807), .second, .val (.ref b222), .unset] [])) _
    refine st7 _ ?_
    show Steps p.tables e below (T7.setTop (mkF m 116 #[.val (.int p0), .val (.int p1), .val (.long p2), .second, .val (.int 4), .val (.int 0), .val (.int 0), .val (.int 0), .val (.int 1), .val (.long jam), .second, .val (.long 9223372036854775807), .second, .val (.ref b222), .unset] [])) _
    refine st8 _ ?_
    show Steps p.tables e below (T8.setTop (mkF m 131 #[.val (.int p0), .val (.int p1), .val (.long p2), .second, .val (.int 4), .val (.int 0), .val (.int 0), .val (.int 0), .val (.int 1), .val (.long jam), .second, .val (.long 9223372036854775807), .second, .val (.ref b222), .unset] [])) _
    refine st9 _ ?_
    show Steps p.tables e below (T9.setTop (mkF m 146 #[.val (.int p0), .val (.int p1), .val (.long p2), .second, .val (.int 4), .val (.int 0), .val (.int 0), .val (.int 0), .val (.int 1), .val (.long jam), .second, .val (.long 9223372036854775807), .second, .val (.ref b222), .unset] [])) _
    refine st10 _ ?_
    show Steps p.tables e below (T10.setTop (mkF m 161 #[.val (.int p0), .val (.int p1), .val (.long p2), .second, .val (.int 4), .val (.int 0), .val (.int 0), .val (.int 0), .val (.int 1), .val (.long jam), .second, .val (.long 9223372036854775807), .second, .val (.ref b222), .unset] [])) _
    refine st13 _ ?_
    show Steps p.tables e below (T13.setTop (mkF m 179 #[.val (.int p0), .val (.int p1), .val (.long p2), .second, .val (.int 4), .val (.int 0), .val (.int 0), .val (.int 0), .val (.int 1), .val (.long jam), .second, .val (.long 9223372036854775807), .second, .val (.ref b222), .val (.int 1)] [])) _
    refine st16 _ ?_
    show Steps p.tables e below (T16.setTop (mkF m 208 #[.val (.int p0), .val (.int p1), .val (.long p2), .second, .val (.int 4), .val (.int 0), .val (.int 0), .val (.int 0), .val (.int 1), .val (.long jam), .second, .val (.long 9223372036854775807), .second, .val (.ref b222), .val (.int 1)] [])) _
    refine st17 _ ?_
    show Steps p.tables e below (T17.setTop (mkF m 237 #[.val (.int p0), .val (.int p1), .val (.long p2), .second, .val (.int 4), .val (.int 0), .val (.int 0), .val (.int 0), .val (.int 1), .val (.long jam), .second, .val (.long 9223372036854775807), .second, .val (.ref b222), .val (.int 1)] [])) _
    refine st18 _ ?_
    refine XS.iload X18.here hx rfl (hb hby at_266) rfl ?_
    show Steps p.tables e below (T18.setTop (mkF m 268 #[.val (.int p0), .val (.int p1), .val (.long p2), .second, .val (.int 4), .val (.int 0), .val (.int 0), .val (.int 0), .val (.int 1), .val (.long jam), .second, .val (.long 9223372036854775807), .second, .val (.ref b222), .val (.int 1)] [(.int 1)])) _
    exact retN X18 hx (t := .boolean) Bd.returns (by simp) (hb hby at_268) hr
  · show QT n0 _ T18.heap _
    rw [e18]
    exact ⟨rfl, N18⟩
set_option maxRecDepth 65536 in
set_option maxHeartbeats 40000000 in
theorem sg39_234 {p : Program} {l : Launch} {e : Env} {s : State} {m : MethodId} {below : List Frame} {meth : Method} {c : Code} {T0 : State} {locs : List Loc} {Z : State} {a0 : Array Value} (p0 : Int32) (p1 : Int32) (p2 : Int64) (gq5 : Int32) (gq6 : Int32) {h0 : Heap} {n0 : Nat} (X0 : Stand p l e room_1 s m #[(.int p0), (.int p1), (.long p2)] below meth c T0 locs 0 0) (hx : p.tables.exec = Jvm.exec) (hZ : Z.Warmed39 s.vm) (hw : ∀ d ∈ tables_1, d.before a0 Z = true) (hby : c.code = code) (hml : c.maxLocals = 15) (hown : s.vm.findClass "hexwright/engine/SealedBidsHasBidPinLaw" = some m.cls) (e0 : T0.heap = h0) (N0 : Fr n0 locs) (Z0 : n0 ≤ h0.size) (f1 : ¬ ((p1 &&& (4 : Int32)) = (0 : Int32))) :
    ∃ (T : State) (L : List Loc), Stand p l e room_1 s m #[(.int p0), (.int p1), (.long p2)] below meth c T L 0 0 ∧ T.heap = h0 ∧ Fr n0 L ∧ (∀ target, Steps p.tables e below (T.setTop (mkF m 58 #[.val (.int p0), .val (.int p1), .val (.long p2), .second, .val (.int 4), .val (.int gq5), .val (.int gq6), .val (.int 1), .unset, .unset, .unset, .unset, .unset, .unset, .unset] [])) target → Steps p.tables e below (T0.setTop (mkF m 39 #[.val (.int p0), .val (.int p1), .val (.long p2), .second, .val (.int 4), .val (.int gq5), .val (.int gq6), .unset, .unset, .unset, .unset, .unset, .unset, .unset, .unset] [])) target) := by
  refine ⟨T0, _, X0, e0, N0, fun target kt => ?_⟩
  show Steps p.tables e below (T0.setTop (mkF m 39 #[.val (.int p0), .val (.int p1), .val (.long p2), .second, .val (.int 4), .val (.int gq5), .val (.int gq6), .unset, .unset, .unset, .unset, .unset, .unset, .unset, .unset] [])) _
  refine XS.iload X0.here hx rfl (hb hby at_39) rfl ?_
  refine XS.iconst X0.here hx rfl (hb hby at_41) ?_
  refine XS.icmpNo X0.here hx rfl (hb hby at_42) rfl (by decide) ?_
  refine XS.iloadN X0.here hx rfl (hb hby at_45) rfl ?_
  refine XS.iconst X0.here hx rfl (hb hby at_46) ?_
  show Steps p.tables e below (T0.setTop (mkF m 47 #[.val (.int p0), .val (.int p1), .val (.long p2), .second, .val (.int 4), .val (.int gq5), .val (.int gq6), .unset, .unset, .unset, .unset, .unset, .unset, .unset, .unset] [(.int 4), (.int p1)])) _
  refine XS.iand X0.here hx rfl (hb hby at_47) rfl ?_
  refine XS.ifNo X0.here hx rfl (hb hby at_48) rfl ((if0 _ _).trans (feq (f1 : ¬ ((p1 &&& (4 : Int32)) = (0 : Int32)))).1) ?_
  refine XS.iconst X0.here hx rfl (hb hby at_51) ?_
  refine XS.goto X0.here hx rfl (pc0 := 52) (pc' := 56) rfl (hb hby at_52) (by decide) (by decide) ?_
  refine XS.istore X0.here hx rfl (hb hby at_56) rfl (l' := #[.val (.int p0), .val (.int p1), .val (.long p2), .second, .val (.int 4), .val (.int gq5), .val (.int gq6), .val (.int 1), .unset, .unset, .unset, .unset, .unset, .unset, .unset]) rfl ?_
  show Steps p.tables e below (T0.setTop (mkF m 58 #[.val (.int p0), .val (.int p1), .val (.long p2), .second, .val (.int 4), .val (.int gq5), .val (.int gq6), .val (.int 1), .unset, .unset, .unset, .unset, .unset, .unset, .unset] [])) _
  exact kt
def Q3_240 (Z : State) (c1_a : Addr) (c2_k : ClassId) (gx0 : Value) (gx1 : Value) (gx3 : Value) (h0 : Heap) (n0 : Nat) (v : Option Value) (h : Heap) (L : List Loc) : Prop := ∃ (bx238 : Addr), v = none ∧ Fr n0 L ∧ Keep h0 h [c1_a] ∧ Arv Z h c1_a c2_k (.object "java/lang/Long") (4 : Int32) [gx0, gx1, (.ref bx238), gx3] .null
set_option maxRecDepth 65536 in
set_option maxHeartbeats 40000000 in
theorem rm3_239 (l : Launch) (Z : State) (a0 : Array Value) (hw : ∀ d ∈ tables_1, d.before a0 Z = true) (ws : List Jvm.Cond) (c0_a : Addr) (jam : Int64) (c1_a : Addr) (c2_k : ClassId) (gx0 : Value) (gx1 : Value) (gx3 : Value) (a_cache : Addr) (h0 : Heap) (n0 : Nat) (Z0 : n0 ≤ h0.size) (f1 : F_0 Z h0 c0_a (.ref c1_a)) (f2 : Arv Z h0 c1_a c2_k (.object "java/lang/Long") (4 : Int32) [gx0, gx1, .null, gx3] .null) (f3 : ¬ ((lcmpW jam (0 : Int64)) < (0 : Int32))) (f4 : ¬ ((0 : Int32) < (lcmpW jam (9223372036854775807 : Int64)))) (f5 : ¬ ((lcmpW jam (-128 : Int64)) < (0 : Int32))) (f6 : S_0 Z h0 (.ref a_cache)) (f7 : OwnAll Z h0 a_cache "java/lang/Long") (f8 : n0 ≤ c1_a) (f9 : Ovr Z c2_k "java/lang/Long") :
    MetFree l M_5 (head1 (Jvm.Cond.code M_5 prog_14_method_2_code 6 none :: ws) R_4_1_1_55) (fun a U => a = #[(.ref c0_a), (.int 3), (.long jam), (.long 9223372036854775807)] ∧ Z.Warmed39 U.vm ∧ U.heap = h0) (fun _ _ _ _ _ => True) (fun _ U o U' => ∃ v L, o = .returned v ∧ Q3_240 Z c1_a c2_k gx0 gx1 gx3 h0 n0 v U'.heap L ∧ FrameEnd U o U' L R_4_1_1_55.cells R_4_1_1_55.slots) := by
  refine MetFree.of_bodySF (plainFor_of_name pn_hexwright_engine_SealedBids) hisR ?_
  intro p e s m args below meth c s₁ Bd hml0 hP hK
  obtain ⟨rfl, hZ, hh⟩ := hP
  have hx := Bd.exec
  have hby := Bd.bytes
  have hml : c.maxLocals = 6 := hml0
  have hown : s.vm.findClass "hexwright/engine/SealedBids" = some m.cls := findClass_of_methodNamed Bd.named
  have hnm := (name_of_methodNamed Bd.named Bd.method).1
  have X0 : Stand p l e R_4_1_1_55 s m #[(.ref c0_a), (.int 3), (.long jam), (.long 9223372036854775807)] below meth c s₁ [] 0 0 := Stand.of_body Bd
  have e0 : s₁.heap = h0 := by rw [← hh, Bd.state]; rfl
  have N0 := Fr.nil n0
  obtain ⟨T1, X1, e1, st1⟩ := getF X0 hx hZ hown (host := "") (Or.inl (tw_12 hw)) Via.refl e0 f1 (g := (mkF m 1 #[.val (.ref c0_a), .val (.int 3), .val (.long jam), .second, .val (.long 9223372036854775807), .second] [(.ref c0_a)])) rfl rfl (hb hby d3_1)
  have va2 := f2
  obtain ⟨cl2, Ar2, -, S2, -, H2, -⟩ := va2
  have hin2 : ¬ ((2 : Int32) < 0 ∨ cl2.slots.size ≤ ((2 : Int32)).toNatClampNeg) := inb_of S2 ⟨by decide, by decide⟩
  have hat2 : cl2.slots[((2 : Int32)).toNatClampNeg]? = some .null := H2 _ (Nat.lt_of_not_le fun y => hin2 (Or.inr y))
  obtain ⟨T3, X3, e3, st3⟩ := getF X1 hx hZ hown (host := "") (Or.inl (tw_12 hw)) Via.refl e1 f1 (g := (mkF m 56 #[.val (.ref c0_a), .val (.int 3), .val (.long jam), .second, .val (.long 9223372036854775807), .second] [(.ref c0_a)])) rfl rfl (hb hby d3_56)
  -- pc 63: java/lang/Long.valueOf
  obtain ⟨_, _, ⟨T4, L4, k4, n4⟩, -, X4, ⟨Lc4, hQ4, l4, y4, z4⟩, st4⟩ := Jvm.LawKit.callS X3 hx (y := M_4) hown (mvT hZ (tw_19 hw)) (mvT hZ (tw_20 hw)) (mvT hZ (tw_21 hw)) (mvT hZ (tw_22 hw)) (by decide) (backOf (W := 2) (rmB_38 l Z a0 hw [] jam a_cache h0 n0 Z0 f5 f6 f7) hZ (tw_22 hw) (tw_21 hw) (by decide) (by decide)) (g := (mkF m 63 #[.val (.ref c0_a), .val (.int 3), .val (.long jam), .second, .val (.long 9223372036854775807), .second] [(.long jam), (.int 2), (.ref c1_a)])) rfl (by rw [hml]; rfl) (argsL := [(.long jam)]) (rest := [(.int 2), (.ref c1_a)]) (lenOf pd_4 rfl) rfl (by show 2 * 0 + _ ≤ _; exact Nat.le_of_eq rfl) (hb hby d3_63) (fun _ _ => ⟨rfl, e3, (by decide : 0 + 1 ≤ _), (by decide : 0 + 1 ≤ _)⟩)
  dsimp only [Pt.U, Pt.locs, Pt.cells, Pt.slots] at X4 l4 y4 z4 st4 hQ4
  subst l4 y4 z4
  obtain ⟨bx238, rfl, Nq4, K4, o4_0⟩ := hQ4
  have N4 := Fr.app N0 Nq4
  have KK4 : Keep h0 T4.heap [c1_a] := (Keep.refl h0 [c1_a]).trans K4 (fun x hx => nomatch hx)
  have u5 : Arv Z T4.heap c1_a c2_k (.object "java/lang/Long") (4 : Int32) [gx0, gx1, .null, gx3] .null := Arv.keep f2 K4 List.not_mem_nil
  have va6 := u5
  obtain ⟨cl6, Ar6, q6, S6, N6_, H6, G6⟩ := va6
  have hin6 : ¬ ((2 : Int32) < 0 ∨ cl6.slots.size ≤ ((2 : Int32)).toNatClampNeg) := inb_of S6 ⟨by decide, by decide⟩
  obtain ⟨T7, h7, X7, e7, W7, st7⟩ := stR X4 hx hZ rfl Ar6 (j := (2 : Int32)) hin6 rfl (Sto.ofV Ar6 q6 f9 (Ins.self o4_0)) (g := (mkF m 66 #[.val (.ref c0_a), .val (.int 3), .val (.long jam), .second, .val (.long 9223372036854775807), .second] [(.ref bx238), (.int 2), (.ref c1_a)])) rfl rfl (hb hby d3_66)
  have Vw7 : Arv Z h7 c1_a c2_k (.object "java/lang/Long") (4 : Int32) [gx0, gx1, (.ref bx238), gx3] .null := Arv.set Ar6 q6 S6 N6_ H6 G6 rfl W7 2 rfl (Nat.le_of_ble_eq_true rfl)
  have KK7 : Keep h0 h7 [c1_a] := KK4.wr W7 (Or.inl (List.mem_of_getElem? (i := 0) rfl))
  have N7 := Fr.snoc X7 N4 f8
  obtain ⟨fs, hr, hrun, hended, hW, hsame⟩ := X7.leave (v := none) (fun _ => rfl)
  refine ⟨_, _, castTop (ef3_RIJJ m c0_a (3 : Int32) jam (9223372036854775807 : Int64)) ?_, hrun, hended, _, _, rfl, ?_, ⟨_, rfl⟩, hW, hsame.mono (by decide) (by decide)⟩
  · show Steps p.tables e below (s₁.setTop (mkF m 0 #[.val (.ref c0_a), .val (.int 3), .val (.long jam), .second, .val (.long 9223372036854775807), .second] [])) _
    refine XS.aloadN X0.here hx rfl (hb hby d3_0) rfl rfl ?_
    show Steps p.tables e below (s₁.setTop (mkF m 1 #[.val (.ref c0_a), .val (.int 3), .val (.long jam), .second, .val (.long 9223372036854775807), .second] [(.ref c0_a)])) _
    refine st1 _ ?_
    refine XS.iloadN X1.here hx rfl (hb hby d3_4) rfl ?_
    refine XS.iconst X1.here hx rfl (hb hby d3_5) ?_
    show Steps p.tables e below (T1.setTop (mkF m 6 #[.val (.ref c0_a), .val (.int 3), .val (.long jam), .second, .val (.long 9223372036854775807), .second] [(.int 1), (.int 3), (.ref c1_a)])) _
    refine XS.isub X1.here hx rfl (hb hby d3_6) rfl ?_
    show Steps p.tables e below (T1.setTop (mkF m 7 #[.val (.ref c0_a), .val (.int 3), .val (.long jam), .second, .val (.long 9223372036854775807), .second] [(.int ((3 : Int32) - (1 : Int32))), (.ref c1_a)])) _
    rw [show ((3 : Int32) - (1 : Int32)) = (2 : Int32) from by decide]
    show Steps p.tables e below (T1.setTop (mkF m 7 #[.val (.ref c0_a), .val (.int 3), .val (.long jam), .second, .val (.long 9223372036854775807), .second] [(.int 2), (.ref c1_a)])) _
    refine X1.aaload hx (j := (2 : Int32)) (v := .null) (by rw [e1]; exact Ar2.1) (State.isArrayOf_alike hZ.alike Ar2.2.1) rfl Ar2.2.2 hin2 hat2 (g := (mkF m 7 #[.val (.ref c0_a), .val (.int 3), .val (.long jam), .second, .val (.long 9223372036854775807), .second] [(.int 2), (.ref c1_a)])) rfl rfl (hb hby d3_7) _ ?_
    refine XS.ifnullYes X1.here hx rfl (pc0 := 8) (pc' := 25) rfl (hb hby d3_8) rfl (by decide) (by decide) ?_
    refine XS.lloadN X1.here hx rfl (hb hby d3_25) rfl ?_
    refine XS.lconst X1.here hx rfl (hb hby d3_26) ?_
    show Steps p.tables e below (T1.setTop (mkF m 27 #[.val (.ref c0_a), .val (.int 3), .val (.long jam), .second, .val (.long 9223372036854775807), .second] [(.long 0), (.long jam)])) _
    refine XS.lcmp X1.here hx rfl (hb hby d3_27) rfl ?_
    refine XS.ifNo X1.here hx rfl (hb hby d3_28) rfl ((if0 _ _).trans (flt (f3 : ¬ ((lcmpW jam (0 : Int64)) < (0 : Int32)))).1) ?_
    refine XS.lloadN X1.here hx rfl (hb hby d3_31) rfl ?_
    refine XS.lload X1.here hx rfl (hb hby d3_32) rfl ?_
    show Steps p.tables e below (T1.setTop (mkF m 34 #[.val (.ref c0_a), .val (.int 3), .val (.long jam), .second, .val (.long 9223372036854775807), .second] [(.long 9223372036854775807), (.long jam)])) _
    refine XS.lcmp X1.here hx rfl (hb hby d3_34) rfl ?_
    refine XS.ifYes X1.here hx rfl (pc0 := 35) (pc' := 55) rfl (hb hby d3_35) rfl ((if0 _ _).trans (flt (f4 : ¬ ((0 : Int32) < (lcmpW jam (9223372036854775807 : Int64))))).2.2.2) (by decide) (by decide) ?_
    refine XS.aloadN X1.here hx rfl (hb hby d3_55) rfl rfl ?_
    show Steps p.tables e below (T1.setTop (mkF m 56 #[.val (.ref c0_a), .val (.int 3), .val (.long jam), .second, .val (.long 9223372036854775807), .second] [(.ref c0_a)])) _
    refine st3 _ ?_
    refine XS.iloadN X3.here hx rfl (hb hby d3_59) rfl ?_
    refine XS.iconst X3.here hx rfl (hb hby d3_60) ?_
    show Steps p.tables e below (T3.setTop (mkF m 61 #[.val (.ref c0_a), .val (.int 3), .val (.long jam), .second, .val (.long 9223372036854775807), .second] [(.int 1), (.int 3), (.ref c1_a)])) _
    refine XS.isub X3.here hx rfl (hb hby d3_61) rfl ?_
    show Steps p.tables e below (T3.setTop (mkF m 62 #[.val (.ref c0_a), .val (.int 3), .val (.long jam), .second, .val (.long 9223372036854775807), .second] [(.int ((3 : Int32) - (1 : Int32))), (.ref c1_a)])) _
    rw [show ((3 : Int32) - (1 : Int32)) = (2 : Int32) from by decide]
    refine XS.lloadN X3.here hx rfl (hb hby d3_62) rfl ?_
    show Steps p.tables e below (T3.setTop (mkF m 63 #[.val (.ref c0_a), .val (.int 3), .val (.long jam), .second, .val (.long 9223372036854775807), .second] [(.long jam), (.int 2), (.ref c1_a)])) _
    refine st4 _ ?_
    show Steps p.tables e below (T4.setTop (mkF m 66 #[.val (.ref c0_a), .val (.int 3), .val (.long jam), .second, .val (.long 9223372036854775807), .second] [(.ref bx238), (.int 2), (.ref c1_a)])) _
    refine st7 _ ?_
    show Steps p.tables e below (T7.setTop (mkF m 67 #[.val (.ref c0_a), .val (.int 3), .val (.long jam), .second, .val (.long 9223372036854775807), .second] [])) _
    exact X7.returnOut hx Bd.returns (hb hby d3_67) hr
  · show Q3_240 Z c1_a c2_k gx0 gx1 gx3 h0 n0 _ T7.heap _
    rw [e7]
    exact ⟨bx238, rfl, N7, KK7, Vw7⟩
set_option maxRecDepth 65536 in
set_option maxHeartbeats 40000000 in
theorem sg131_242 {p : Program} {l : Launch} {e : Env} {s : State} {m : MethodId} {below : List Frame} {meth : Method} {c : Code} {T0 : State} {locs : List Loc} {Z : State} {a0 : Array Value} (p0 : Int32) (p1 : Int32) (p2 : Int64) (gq4 : Int32) (gq5 : Int32) (gq6 : Int32) (gq8 : Int32) (jam : Int64) (c0_a : Addr) (c1_a : Addr) (c2_k : ClassId) (gx0 : Value) (gx1 : Value) (gx3 : Value) (a_cache : Addr) {h0 : Heap} {n0 : Nat} (X0 : Stand p l e room_1 s m #[(.int p0), (.int p1), (.long p2)] below meth c T0 locs 4 7) (hx : p.tables.exec = Jvm.exec) (hZ : Z.Warmed39 s.vm) (hw : ∀ d ∈ tables_1, d.before a0 Z = true) (hby : c.code = code) (hml : c.maxLocals = 15) (hown : s.vm.findClass "hexwright/engine/SealedBidsHasBidPinLaw" = some m.cls) (e0 : T0.heap = h0) (N0 : Fr n0 locs) (Z0 : n0 ≤ h0.size) (f1 : F_0 Z h0 c0_a (.ref c1_a)) (f2 : Arv Z h0 c1_a c2_k (.object "java/lang/Long") (4 : Int32) [gx0, gx1, .null, gx3] .null) (f3 : ¬ ((lcmpW jam (0 : Int64)) < (0 : Int32))) (f4 : ¬ ((0 : Int32) < (lcmpW jam (9223372036854775807 : Int64)))) (f5 : ¬ ((lcmpW jam (-128 : Int64)) < (0 : Int32))) (f6 : S_0 Z h0 (.ref a_cache)) (f7 : OwnAll Z h0 a_cache "java/lang/Long") (f8 : n0 ≤ c1_a) (f9 : Ovr Z c2_k "java/lang/Long") (f10 : E_1 Z h0 c0_a) :
    ∃ (T : State) (h : Heap) (L : List Loc) (bx241 : Addr), Stand p l e room_1 s m #[(.int p0), (.int p1), (.long p2)] below meth c T L 5 8 ∧ T.heap = h ∧ Fr n0 L ∧ Keep h0 h [c1_a] ∧ Arv Z h c1_a c2_k (.object "java/lang/Long") (4 : Int32) [gx0, gx1, (.ref bx241), gx3] .null ∧ (∀ target, Steps p.tables e below (T.setTop (mkF m 146 #[.val (.int p0), .val (.int p1), .val (.long p2), .second, .val (.int gq4), .val (.int gq5), .val (.int gq6), .val (.int 1), .val (.int gq8), .val (.long jam), .second, .val (.long 9223372036854775807), .second, .val (.ref c0_a), .unset] [])) target → Steps p.tables e below (T0.setTop (mkF m 131 #[.val (.int p0), .val (.int p1), .val (.long p2), .second, .val (.int gq4), .val (.int gq5), .val (.int gq6), .val (.int 1), .val (.int gq8), .val (.long jam), .second, .val (.long 9223372036854775807), .second, .val (.ref c0_a), .unset] [])) target) := by
  -- pc 143: hexwright/engine/SealedBids.bid
  obtain ⟨cq1, kq1, q1a, q1b, q1c⟩ := isOf hZ e0 f10
  obtain ⟨_, _, ⟨T1, L1, k1, n1⟩, -, X1, ⟨Lc1, hQ1, l1, y1, z1⟩, st1⟩ := X0.virtualBack hx (y := M_5) (z := M_5) hown (mvT hZ (tw_14 hw)) (mvT hZ (tw_15 hw)) (notFace_of_selects (args := #[]) (mvT hZ (tw_17 hw))) (mvT hZ (tw_17 hw)) (mvT hZ (tw_16 hw)) (by decide) (backOf (W := 0) (rm3_239 l Z a0 hw [] c0_a jam c1_a c2_k gx0 gx1 gx3 a_cache h0 n0 Z0 f1 f2 f3 f4 f5 f6 f7 f8 f9) hZ (tw_18 hw) (tw_3 hw) (by decide) (by decide)) q1a q1c (g := (mkF m 143 #[.val (.int p0), .val (.int p1), .val (.long p2), .second, .val (.int gq4), .val (.int gq5), .val (.int gq6), .val (.int 1), .val (.int gq8), .val (.long jam), .second, .val (.long 9223372036854775807), .second, .val (.ref c0_a), .unset] [(.long 9223372036854775807), (.long jam), (.int 3), (.ref c0_a)])) rfl (by rw [hml]; rfl) (Steps.refl _) (argsL := [(.int 3), (.long jam), (.long 9223372036854775807)]) (rest := []) (lenOf pd_5 rfl) rfl (by show 2 * 0 + _ ≤ _; exact Nat.le_of_eq rfl) (hb hby at_143) (fun _ _ => ⟨rfl, e0, (by decide : 4 + 1 ≤ _), (by decide : 7 + 1 ≤ _)⟩)
  dsimp only [Pt.U, Pt.locs, Pt.cells, Pt.slots] at X1 l1 y1 z1 st1 hQ1
  subst l1 y1 z1
  obtain ⟨bx241, rfl, Nq1, K1, o1_0⟩ := hQ1
  have N1 := Fr.app N0 Nq1
  have KK1 : Keep h0 T1.heap [c1_a] := (Keep.refl h0 [c1_a]).trans K1 (fun x hx => (List.mem_cons.mp hx).elim (fun q => q ▸ (Or.inl (List.mem_of_getElem? (i := 0) rfl))) (fun hx => nomatch hx))
  refine ⟨T1, _, _, bx241, (X1.more (by decide) (by decide)), rfl, N1, KK1, o1_0, fun target kt => ?_⟩
  show Steps p.tables e below (T0.setTop (mkF m 131 #[.val (.int p0), .val (.int p1), .val (.long p2), .second, .val (.int gq4), .val (.int gq5), .val (.int gq6), .val (.int 1), .val (.int gq8), .val (.long jam), .second, .val (.long 9223372036854775807), .second, .val (.ref c0_a), .unset] [])) _
  refine XS.iload X0.here hx rfl (hb hby at_131) rfl ?_
  refine XS.ifNo X0.here hx rfl (hb hby at_133) rfl (by decide) ?_
  refine XS.aload X0.here hx rfl (hb hby at_136) rfl rfl ?_
  refine XS.iconst X0.here hx rfl (hb hby at_138) ?_
  refine XS.lload X0.here hx rfl (hb hby at_139) rfl ?_
  show Steps p.tables e below (T0.setTop (mkF m 141 #[.val (.int p0), .val (.int p1), .val (.long p2), .second, .val (.int gq4), .val (.int gq5), .val (.int gq6), .val (.int 1), .val (.int gq8), .val (.long jam), .second, .val (.long 9223372036854775807), .second, .val (.ref c0_a), .unset] [(.long jam), (.int 3), (.ref c0_a)])) _
  refine XS.lload X0.here hx rfl (hb hby at_141) rfl ?_
  show Steps p.tables e below (T0.setTop (mkF m 143 #[.val (.int p0), .val (.int p1), .val (.long p2), .second, .val (.int gq4), .val (.int gq5), .val (.int gq6), .val (.int 1), .val (.int gq8), .val (.long jam), .second, .val (.long 9223372036854775807), .second, .val (.ref c0_a), .unset] [(.long 9223372036854775807), (.long jam), (.int 3), (.ref c0_a)])) _
  refine st1.trans ?_
  show Steps p.tables e below (T1.setTop (mkF m 146 #[.val (.int p0), .val (.int p1), .val (.long p2), .second, .val (.int gq4), .val (.int gq5), .val (.int gq6), .val (.int 1), .val (.int gq8), .val (.long jam), .second, .val (.long 9223372036854775807), .second, .val (.ref c0_a), .unset] [])) _
  exact kt
set_option maxRecDepth 65536 in
set_option maxHeartbeats 40000000 in
theorem rm5_244 (l : Launch) (Z : State) (a0 : Array Value) (hw : ∀ d ∈ tables_1, d.before a0 Z = true) (ws : List Jvm.Cond) (c0_a : Addr) (c1_a : Addr) (c2_k : ClassId) (gx0 : Value) (gx1 : Value) (c3_a : Addr) (gx3 : Value) (h0 : Heap) (n0 : Nat) (Z0 : n0 ≤ h0.size) (f1 : F_0 Z h0 c0_a (.ref c1_a)) (f2 : Arv Z h0 c1_a c2_k (.object "java/lang/Long") (4 : Int32) [gx0, gx1, (.ref c3_a), gx3] .null) :
    MetFree l M_1 (head1 (Jvm.Cond.code M_1 prog_14_method_4_code 2 (some .boolean) :: ws) R_0_0_0_0) (fun a U => a = #[(.ref c0_a), (.int 3)] ∧ Z.Warmed39 U.vm ∧ U.heap = h0) (fun _ _ _ _ _ => True) (fun _ U o U' => ∃ v L, o = .returned v ∧ QP (some (.int 1)) h0 n0 v U'.heap L ∧ FrameEnd U o U' L R_0_0_0_0.cells R_0_0_0_0.slots) := by
  refine MetFree.of_bodySF (plainFor_of_name pn_hexwright_engine_SealedBids) hisR ?_
  intro p e s m args below meth c s₁ Bd hml0 hP hK
  obtain ⟨rfl, hZ, hh⟩ := hP
  have hx := Bd.exec
  have hby := Bd.bytes
  have hml : c.maxLocals = 2 := hml0
  have hown : s.vm.findClass "hexwright/engine/SealedBids" = some m.cls := findClass_of_methodNamed Bd.named
  have hnm := (name_of_methodNamed Bd.named Bd.method).1
  have X0 : Stand p l e R_0_0_0_0 s m #[(.ref c0_a), (.int 3)] below meth c s₁ [] 0 0 := Stand.of_body Bd
  have e0 : s₁.heap = h0 := by rw [← hh, Bd.state]; rfl
  have N0 := Fr.nil n0
  obtain ⟨T1, X1, e1, st1⟩ := getF X0 hx hZ hown (host := "") (Or.inl (tw_12 hw)) Via.refl e0 f1 (g := (mkF m 1 #[.val (.ref c0_a), .val (.int 3)] [(.ref c0_a)])) rfl rfl (hb hby d5_1)
  have va2 := f2
  obtain ⟨cl2, Ar2, -, S2, -, H2, -⟩ := va2
  have hin2 : ¬ ((2 : Int32) < 0 ∨ cl2.slots.size ≤ ((2 : Int32)).toNatClampNeg) := inb_of S2 ⟨by decide, by decide⟩
  have hat2 : cl2.slots[((2 : Int32)).toNatClampNeg]? = some (.ref c3_a) := H2 _ (Nat.lt_of_not_le fun y => hin2 (Or.inr y))
  obtain ⟨fs, hr, hrun, hended, hW, hsame⟩ := X1.leave (v := (some (.int 1))) (fun h => by rw [Bd.returns] at h; cases h)
  refine ⟨_, _, castTop (ef5_RI m c0_a (3 : Int32)) ?_, hrun, hended, _, _, rfl, ?_, ⟨_, rfl⟩, hW, hsame.mono (by decide) (by decide)⟩
  · show Steps p.tables e below (s₁.setTop (mkF m 0 #[.val (.ref c0_a), .val (.int 3)] [])) _
    refine XS.aloadN X0.here hx rfl (hb hby d5_0) rfl rfl ?_
    show Steps p.tables e below (s₁.setTop (mkF m 1 #[.val (.ref c0_a), .val (.int 3)] [(.ref c0_a)])) _
    refine st1 _ ?_
    refine XS.iloadN X1.here hx rfl (hb hby d5_4) rfl ?_
    refine XS.iconst X1.here hx rfl (hb hby d5_5) ?_
    show Steps p.tables e below (T1.setTop (mkF m 6 #[.val (.ref c0_a), .val (.int 3)] [(.int 1), (.int 3), (.ref c1_a)])) _
    refine XS.isub X1.here hx rfl (hb hby d5_6) rfl ?_
    show Steps p.tables e below (T1.setTop (mkF m 7 #[.val (.ref c0_a), .val (.int 3)] [(.int ((3 : Int32) - (1 : Int32))), (.ref c1_a)])) _
    rw [show ((3 : Int32) - (1 : Int32)) = (2 : Int32) from by decide]
    show Steps p.tables e below (T1.setTop (mkF m 7 #[.val (.ref c0_a), .val (.int 3)] [(.int 2), (.ref c1_a)])) _
    refine X1.aaload hx (j := (2 : Int32)) (v := (.ref c3_a)) (by rw [e1]; exact Ar2.1) (State.isArrayOf_alike hZ.alike Ar2.2.1) rfl Ar2.2.2 hin2 hat2 (g := (mkF m 7 #[.val (.ref c0_a), .val (.int 3)] [(.int 2), (.ref c1_a)])) rfl rfl (hb hby d5_7) _ ?_
    refine XS.ifnullNo X1.here hx rfl (hb hby d5_8) rfl ?_
    refine XS.iconst X1.here hx rfl (hb hby d5_11) ?_
    refine XS.goto X1.here hx rfl (pc0 := 12) (pc' := 16) rfl (hb hby d5_12) (by decide) (by decide) ?_
    show Steps p.tables e below (T1.setTop (mkF m 16 #[.val (.ref c0_a), .val (.int 3)] [(.int 1)])) _
    exact retN X1 hx (t := .boolean) Bd.returns (by simp) (hb hby d5_16) hr
  · show QP (some (.int 1)) h0 n0 _ T1.heap _
    rw [e1]
    exact ⟨rfl, N0, rfl⟩
set_option maxRecDepth 65536 in
set_option maxHeartbeats 40000000 in
theorem sg208_245 {p : Program} {l : Launch} {e : Env} {s : State} {m : MethodId} {below : List Frame} {meth : Method} {c : Code} {T0 : State} {locs : List Loc} {Z : State} {a0 : Array Value} (p0 : Int32) (p1 : Int32) (p2 : Int64) (gq5 : Int32) (gq6 : Int32) (gq8 : Int32) (jam : Int64) (gq11 : Int64) (c0_a : Addr) (c1_a : Addr) (c2_k : ClassId) (gx0 : Value) (gx1 : Value) (c3_a : Addr) (gx3 : Value) {h0 : Heap} {n0 : Nat} (X0 : Stand p l e room_1 s m #[(.int p0), (.int p1), (.long p2)] below meth c T0 locs 6 9) (hx : p.tables.exec = Jvm.exec) (hZ : Z.Warmed39 s.vm) (hw : ∀ d ∈ tables_1, d.before a0 Z = true) (hby : c.code = code) (hml : c.maxLocals = 15) (hown : s.vm.findClass "hexwright/engine/SealedBidsHasBidPinLaw" = some m.cls) (e0 : T0.heap = h0) (N0 : Fr n0 locs) (Z0 : n0 ≤ h0.size) (f1 : F_0 Z h0 c0_a (.ref c1_a)) (f2 : Arv Z h0 c1_a c2_k (.object "java/lang/Long") (4 : Int32) [gx0, gx1, (.ref c3_a), gx3] .null) (f3 : E_1 Z h0 c0_a) :
    ∃ (T : State) (L : List Loc), Stand p l e room_1 s m #[(.int p0), (.int p1), (.long p2)] below meth c T L 6 9 ∧ T.heap = h0 ∧ Fr n0 L ∧ (∀ target, Steps p.tables e below (T.setTop (mkF m 237 #[.val (.int p0), .val (.int p1), .val (.long p2), .second, .val (.int 4), .val (.int gq5), .val (.int gq6), .val (.int 1), .val (.int gq8), .val (.long jam), .second, .val (.long gq11), .second, .val (.ref c0_a), .val (.int 1)] [])) target → Steps p.tables e below (T0.setTop (mkF m 208 #[.val (.int p0), .val (.int p1), .val (.long p2), .second, .val (.int 4), .val (.int gq5), .val (.int gq6), .val (.int 1), .val (.int gq8), .val (.long jam), .second, .val (.long gq11), .second, .val (.ref c0_a), .val (.int 1)] [])) target) := by
  -- pc 222: hexwright/engine/SealedBids.hasBid
  obtain ⟨cq1, kq1, q1a, q1b, q1c⟩ := isOf hZ e0 f3
  obtain ⟨_, _, ⟨T1, L1, k1, n1⟩, -, X1, ⟨Lc1, hQ1, l1, y1, z1⟩, st1⟩ := X0.virtualBack hx (y := M_1) (z := M_1) hown (mvT hZ (tw_28 hw)) (mvT hZ (tw_29 hw)) (notFace_of_selects (args := #[]) (mvT hZ (tw_31 hw))) (mvT hZ (tw_31 hw)) (mvT hZ (tw_30 hw)) (by decide) (backOf (W := 0) (rm5_244 l Z a0 hw [] c0_a c1_a c2_k gx0 gx1 c3_a gx3 h0 n0 Z0 f1 f2) hZ (tw_32 hw) (tw_3 hw) (by decide) (by decide)) q1a q1c (g := (mkF m 222 #[.val (.int p0), .val (.int p1), .val (.long p2), .second, .val (.int 4), .val (.int gq5), .val (.int gq6), .val (.int 1), .val (.int gq8), .val (.long jam), .second, .val (.long gq11), .second, .val (.ref c0_a), .val (.int 1)] [(.int 3), (.ref c0_a)])) rfl (by rw [hml]; rfl) (Steps.refl _) (argsL := [(.int 3)]) (rest := []) (lenOf pd_1 rfl) rfl (by show 2 * 0 + _ ≤ _; exact Nat.le_of_eq rfl) (hb hby at_222) (fun _ _ => ⟨rfl, e0, (by decide : 6 + 0 ≤ _), (by decide : 9 + 0 ≤ _)⟩)
  dsimp only [Pt.U, Pt.locs, Pt.cells, Pt.slots] at X1 l1 y1 z1 st1 hQ1
  subst l1 y1 z1
  obtain ⟨rfl, Nq1, e1⟩ := hQ1
  have N1 := Fr.app N0 Nq1
  refine ⟨T1, _, X1, e1, N1, fun target kt => ?_⟩
  show Steps p.tables e below (T0.setTop (mkF m 208 #[.val (.int p0), .val (.int p1), .val (.long p2), .second, .val (.int 4), .val (.int gq5), .val (.int gq6), .val (.int 1), .val (.int gq8), .val (.long jam), .second, .val (.long gq11), .second, .val (.ref c0_a), .val (.int 1)] [])) _
  refine XS.iload X0.here hx rfl (hb hby at_208) rfl ?_
  refine XS.iconst X0.here hx rfl (hb hby at_210) ?_
  refine XS.icmpNo X0.here hx rfl (hb hby at_211) rfl (by decide) ?_
  refine XS.iload X0.here hx rfl (hb hby at_214) rfl ?_
  refine XS.ifNo X0.here hx rfl (hb hby at_216) rfl (by decide) ?_
  show Steps p.tables e below (T0.setTop (mkF m 219 #[.val (.int p0), .val (.int p1), .val (.long p2), .second, .val (.int 4), .val (.int gq5), .val (.int gq6), .val (.int 1), .val (.int gq8), .val (.long jam), .second, .val (.long gq11), .second, .val (.ref c0_a), .val (.int 1)] [])) _
  refine XS.aload X0.here hx rfl (hb hby at_219) rfl rfl ?_
  refine XS.iconst X0.here hx rfl (hb hby at_221) ?_
  show Steps p.tables e below (T0.setTop (mkF m 222 #[.val (.int p0), .val (.int p1), .val (.long p2), .second, .val (.int 4), .val (.int gq5), .val (.int gq6), .val (.int 1), .val (.int gq8), .val (.long jam), .second, .val (.long gq11), .second, .val (.ref c0_a), .val (.int 1)] [(.int 3), (.ref c0_a)])) _
  refine st1.trans ?_
  refine XS.iload X1.here hx rfl (hb hby at_225) rfl ?_
  refine XS.icmpNo X1.here hx rfl (hb hby at_227) rfl (by decide) ?_
  refine XS.iconst X1.here hx rfl (hb hby at_230) ?_
  refine XS.goto X1.here hx rfl (pc0 := 231) (pc' := 235) rfl (hb hby at_231) (by decide) (by decide) ?_
  show Steps p.tables e below (T1.setTop (mkF m 235 #[.val (.int p0), .val (.int p1), .val (.long p2), .second, .val (.int 4), .val (.int gq5), .val (.int gq6), .val (.int 1), .val (.int gq8), .val (.long jam), .second, .val (.long gq11), .second, .val (.ref c0_a), .val (.int 1)] [(.int 1)])) _
  refine XS.istore X1.here hx rfl (hb hby at_235) rfl (l' := #[.val (.int p0), .val (.int p1), .val (.long p2), .second, .val (.int 4), .val (.int gq5), .val (.int gq6), .val (.int 1), .val (.int gq8), .val (.long jam), .second, .val (.long gq11), .second, .val (.ref c0_a), .val (.int 1)]) rfl ?_
  show Steps p.tables e below (T1.setTop (mkF m 237 #[.val (.int p0), .val (.int p1), .val (.long p2), .second, .val (.int 4), .val (.int gq5), .val (.int gq6), .val (.int 1), .val (.int gq8), .val (.long jam), .second, .val (.long gq11), .second, .val (.ref c0_a), .val (.int 1)] [])) _
  exact kt
set_option maxRecDepth 65536 in
set_option maxHeartbeats 40000000 in
theorem rm0_246 (l : Launch) (Z : State) (a0 : Array Value) (hw : ∀ d ∈ tables_1, d.before a0 Z = true) (ws : List Jvm.Cond) (p0 : Int32) (p1 : Int32) (p2 : Int64) (jam : Int64) (a_cache : Addr) (h0 : Heap) (n0 : Nat) (Z0 : n0 ≤ h0.size) (f1 : (p0 &&& (3 : Int32)) = (3 : Int32)) (f2 : (p1 &&& (1 : Int32)) = (0 : Int32)) (f3 : (p1 &&& (2 : Int32)) = (0 : Int32)) (f4 : ¬ ((p1 &&& (4 : Int32)) = (0 : Int32))) (f5 : (p1 &&& (8 : Int32)) = (0 : Int32)) (f6 : (p2 &&& (9223372036854775807 : Int64)) = jam) (f7 : ¬ ((lcmpW jam (0 : Int64)) < (0 : Int32))) (f8 : ¬ ((0 : Int32) < (lcmpW jam (9223372036854775807 : Int64)))) (f9 : ¬ ((lcmpW jam (-128 : Int64)) < (0 : Int32))) (f10 : S_0 Z h0 (.ref a_cache)) (f11 : OwnAll Z h0 a_cache "java/lang/Long") :
    MetFree l x (head1 (Jvm.Cond.code x code maxLocals ret :: ws) room_1) (fun a U => a = #[(.int p0), (.int p1), (.long p2)] ∧ Z.Warmed39 U.vm ∧ U.heap = h0) (fun _ _ _ _ _ => True) (fun _ U o U' => ∃ v L, o = .returned v ∧ QT n0 v U'.heap L ∧ FrameEnd U o U' L room_1.cells room_1.slots) := by
  refine MetFree.of_bodySF (plainFor_of_name pn_hexwright_engine_SealedBidsHasBidPinLaw) hisR ?_
  intro p e s m args below meth c s₁ Bd hml0 hP hK
  obtain ⟨rfl, hZ, hh⟩ := hP
  have hx := Bd.exec
  have hby := Bd.bytes
  have hml : c.maxLocals = 15 := hml0
  have hown : s.vm.findClass "hexwright/engine/SealedBidsHasBidPinLaw" = some m.cls := findClass_of_methodNamed Bd.named
  have hnm := (name_of_methodNamed Bd.named Bd.method).1
  have X0 : Stand p l e room_1 s m #[(.int p0), (.int p1), (.long p2)] below meth c s₁ [] 0 0 := Stand.of_body Bd
  have e0 : s₁.heap = h0 := by rw [← hh, Bd.state]; rfl
  have N0 := Fr.nil n0
  obtain ⟨T1, L1, X1, e1, N1, st1⟩ := sg7_1 p0 p1 p2 (4 : Int32) X0 hx hZ hw hby hml hown e0 N0 Z0 f2
  obtain ⟨T2, L2, X2, e2, N2, st2⟩ := sg20_194 p0 p1 p2 (0 : Int32) X1 hx hZ hw hby hml hown e1 N1 Z0 f3
  obtain ⟨T3, L3, X3, e3, N3, st3⟩ := sg39_234 p0 p1 p2 (0 : Int32) (0 : Int32) X2 hx hZ hw hby hml hown e2 N2 Z0 f4
  obtain ⟨T4, L4, X4, e4, N4, st4⟩ := sg58_196 p0 p1 p2 (0 : Int32) (0 : Int32) (1 : Int32) X3 hx hZ hw hby hml hown e3 N3 Z0 f5
  obtain ⟨T5, L5, X5, e5, N5, st5⟩ := sg78_5 p0 p1 p2 (4 : Int32) (0 : Int32) (0 : Int32) (1 : Int32) (0 : Int32) jam X4 hx hZ hw hby hml hown e4 N4 Z0 f6
  obtain ⟨T6, h6, L6, b235, b236, kc237, X6, e6, N6, K6, le_b235, le_b236, o6_0, o6_1, o6_2, o6_3, o6_4, st6⟩ := sg90_204 p0 p1 p2 (0 : Int32) (0 : Int32) (1 : Int32) (0 : Int32) jam (9223372036854775807 : Int64) X5 hx hZ hw hby hml hown e5 N5 Z0 
  have sz_b235 : h0.size ≤ b235 := Nat.le_trans (Nat.le_refl _) le_b235
  have g_b235 : n0 ≤ b235 := Nat.le_trans Z0 sz_b235
  have sz_b236 : h0.size ≤ b236 := Nat.le_trans (Nat.le_refl _) le_b236
  have g_b236 : n0 ≤ b236 := Nat.le_trans Z0 sz_b236
  have KK6 : Keep h0 h6 [] := (Keep.refl h0 []).trans K6 (fun x hx => nomatch hx)
  obtain ⟨T7, L7, X7, e7, N7, st7⟩ := sg101_208 p0 p1 p2 (4 : Int32) (0 : Int32) (1 : Int32) (0 : Int32) jam b235 X6 hx hZ hw hby hml hown e6 N6 (Nat.le_trans Z0 KK6.1) 
  obtain ⟨T8, L8, X8, e8, N8, st8⟩ := sg116_209 p0 p1 p2 (4 : Int32) (0 : Int32) (1 : Int32) (0 : Int32) jam b235 X7 hx hZ hw hby hml hown e7 N7 (Nat.le_trans Z0 KK6.1) 
  have u10 : S_0 Z h6 (.ref a_cache) := own_sta_keep f10 K6 (fun _ q => nomatch q)
  have u11 : OwnAll Z h6 a_cache "java/lang/Long" := own_all_keep f11 K6 List.not_mem_nil
  obtain ⟨T9, h9, L9, bx243, X9, e9, N9, K9, o9_0, st9⟩ := sg131_242 p0 p1 p2 (4 : Int32) (0 : Int32) (0 : Int32) (0 : Int32) jam b235 b236 kc237 .null .null .null a_cache X8 hx hZ hw hby hml hown e8 N8 (Nat.le_trans Z0 KK6.1) o6_1 o6_2 f7 f8 f9 u10 u11 g_b236 o6_3 o6_0
  have KK9 : Keep h0 h9 [] := KK6.trans K9 (fun x hx => (List.mem_cons.mp hx).elim (fun q => q ▸ (Or.inr sz_b236)) (fun hx => nomatch hx))
  obtain ⟨T12, L12, X12, e12, N12, st12⟩ := sg146_211 p0 p1 p2 (4 : Int32) (0 : Int32) (0 : Int32) (1 : Int32) jam b235 X9 hx hZ hw hby hml hown e9 N9 (Nat.le_trans Z0 KK9.1) 
  have u14 : F_0 Z h9 b235 (.ref b236) := Fld.keep o6_1 K9 (own_notin o6_4 List.not_mem_nil)
  have u15 : E_1 Z h9 b235 := Exa.keep o6_0 K9
  obtain ⟨T13, L13, X13, e13, N13, st13⟩ := sg161_213 p0 p1 p2 (4 : Int32) (0 : Int32) (1 : Int32) (0 : Int32) jam (9223372036854775807 : Int64) b235 b236 kc237 .null (.ref bx243) .null X12 hx hZ hw hby hml hown e12 N12 (Nat.le_trans Z0 KK9.1) u14 o9_0 u15
  obtain ⟨T16, L16, X16, e16, N16, st16⟩ := sg179_215 p0 p1 p2 (0 : Int32) (1 : Int32) (0 : Int32) jam (9223372036854775807 : Int64) b235 b236 kc237 .null (.ref bx243) .null X13 hx hZ hw hby hml hown e13 N13 (Nat.le_trans Z0 KK9.1) u14 o9_0 u15
  obtain ⟨T17, L17, X17, e17, N17, st17⟩ := sg208_245 p0 p1 p2 (0 : Int32) (0 : Int32) (0 : Int32) jam (9223372036854775807 : Int64) b235 b236 kc237 .null .null bx243 .null X16 hx hZ hw hby hml hown e16 N16 (Nat.le_trans Z0 KK9.1) u14 o9_0 u15
  obtain ⟨T18, L18, X18, e18, N18, st18⟩ := sg237_219 p0 p1 p2 (0 : Int32) (0 : Int32) (1 : Int32) jam (9223372036854775807 : Int64) b235 b236 kc237 .null .null (.ref bx243) X17 hx hZ hw hby hml hown e17 N17 (Nat.le_trans Z0 KK9.1) u14 o9_0 u15
  obtain ⟨fs, hr, hrun, hended, hW, hsame⟩ := X18.leave (v := (some (.int 1))) (fun h => by rw [Bd.returns] at h; cases h)
  refine ⟨_, _, castTop (ef0_IIJ m p0 p1 p2) ?_, hrun, hended, _, _, rfl, ?_, ⟨_, rfl⟩, hW, hsame.mono (by decide) (by decide)⟩
  · show Steps p.tables e below (s₁.setTop (mkF m 0 #[.val (.int p0), .val (.int p1), .val (.long p2), .second, .unset, .unset, .unset, .unset, .unset, .unset, .unset, .unset, .unset, .unset, .unset] [])) _
    refine XS.iloadN X0.here hx rfl (hb hby at_0) rfl ?_
    refine XS.iconst X0.here hx rfl (hb hby at_1) ?_
    show Steps p.tables e below (s₁.setTop (mkF m 2 #[.val (.int p0), .val (.int p1), .val (.long p2), .second, .unset, .unset, .unset, .unset, .unset, .unset, .unset, .unset, .unset, .unset, .unset] [(.int 3), (.int p0)])) _
    refine XS.iand X0.here hx rfl (hb hby at_2) rfl ?_
    show Steps p.tables e below (s₁.setTop (mkF m 3 #[.val (.int p0), .val (.int p1), .val (.long p2), .second, .unset, .unset, .unset, .unset, .unset, .unset, .unset, .unset, .unset, .unset, .unset] [(.int (p0 &&& (3 : Int32)))])) _
    rw [f1]
    refine XS.iconst X0.here hx rfl (hb hby at_3) ?_
    show Steps p.tables e below (s₁.setTop (mkF m 4 #[.val (.int p0), .val (.int p1), .val (.long p2), .second, .unset, .unset, .unset, .unset, .unset, .unset, .unset, .unset, .unset, .unset, .unset] [(.int 1), (.int 3)])) _
    refine XS.iadd X0.here hx rfl (hb hby at_4) rfl ?_
    show Steps p.tables e below (s₁.setTop (mkF m 5 #[.val (.int p0), .val (.int p1), .val (.long p2), .second, .unset, .unset, .unset, .unset, .unset, .unset, .unset, .unset, .unset, .unset, .unset] [(.int ((3 : Int32) + (1 : Int32)))])) _
    rw [show ((3 : Int32) + (1 : Int32)) = (4 : Int32) from by decide]
    refine XS.istore X0.here hx rfl (hb hby at_5) rfl (l' := #[.val (.int p0), .val (.int p1), .val (.long p2), .second, .val (.int 4), .unset, .unset, .unset, .unset, .unset, .unset, .unset, .unset, .unset, .unset]) rfl ?_
    show Steps p.tables e below (s₁.setTop (mkF m 7 #[.val (.int p0), .val (.int p1), .val (.long p2), .second, .val (.int 4), .unset, .unset, .unset, .unset, .unset, .unset, .unset, .unset, .unset, .unset] [])) _
    refine st1 _ ?_
    show Steps p.tables e below (T1.setTop (mkF m 20 #[.val (.int p0), .val (.int p1), .val (.long p2), .second, .val (.int 4), .val (.int 0), .unset, .unset, .unset, .unset, .unset, .unset, .unset, .unset, .unset] [])) _
    refine st2 _ ?_
    show Steps p.tables e below (T2.setTop (mkF m 39 #[.val (.int p0), .val (.int p1), .val (.long p2), .second, .val (.int 4), .val (.int 0), .val (.int 0), .unset, .unset, .unset, .unset, .unset, .unset, .unset, .unset] [])) _
    refine st3 _ ?_
    show Steps p.tables e below (T3.setTop (mkF m 58 #[.val (.int p0), .val (.int p1), .val (.long p2), .second, .val (.int 4), .val (.int 0), .val (.int 0), .val (.int 1), .unset, .unset, .unset, .unset, .unset, .unset, .unset] [])) _
    refine st4 _ ?_
    show Steps p.tables e below (T4.setTop (mkF m 78 #[.val (.int p0), .val (.int p1), .val (.long p2), .second, .val (.int 4), .val (.int 0), .val (.int 0), .val (.int 1), .val (.int 0), .unset, .unset, .unset, .unset, .unset, .unset] [])) _
    refine st5 _ ?_
    show Steps p.tables e below (T5.setTop (mkF m 90 #[.val (.int p0), .val (.int p1), .val (.long p2), .second, .val (.int 4), .val (.int 0), .val (.int 0), .val (.int 1), .val (.int 0), .val (.long jam), .second, .val (.long 9223372036854775807), .second, .unset, .unset] [])) _
    refine st6 _ ?_
    show Steps p.tables e below (T6.setTop (mkF m 101 #[.val (.int p0), .val (.int p1), .val (.long p2), .second, .val (.int 4), .val (.int 0), .val (.int 0), .val (.int 1), .val (.int 0), .val (.long jam), .second, .val (.long 9223372036854775807), .second, .val (.ref b235), .unset] [])) _
    refine st7 _ ?_
    show Steps p.tables e below (T7.setTop (mkF m 116 #[.val (.int p0), .val (.int p1), .val (.long p2), .second, .val (.int 4), .val (.int 0), .val (.int 0), .val (.int 1), .val (.int 0), .val (.long jam), .second, .val (.long 9223372036854775807), .second, .val (.ref b235), .unset] [])) _
    refine st8 _ ?_
    show Steps p.tables e below (T8.setTop (mkF m 131 #[.val (.int p0), .val (.int p1), .val (.long p2), .second, .val (.int 4), .val (.int 0), .val (.int 0), .val (.int 1), .val (.int 0), .val (.long jam), .second, .val (.long 9223372036854775807), .second, .val (.ref b235), .unset] [])) _
    refine st9 _ ?_
    show Steps p.tables e below (T9.setTop (mkF m 146 #[.val (.int p0), .val (.int p1), .val (.long p2), .second, .val (.int 4), .val (.int 0), .val (.int 0), .val (.int 1), .val (.int 0), .val (.long jam), .second, .val (.long 9223372036854775807), .second, .val (.ref b235), .unset] [])) _
    refine st12 _ ?_
    show Steps p.tables e below (T12.setTop (mkF m 161 #[.val (.int p0), .val (.int p1), .val (.long p2), .second, .val (.int 4), .val (.int 0), .val (.int 0), .val (.int 1), .val (.int 0), .val (.long jam), .second, .val (.long 9223372036854775807), .second, .val (.ref b235), .unset] [])) _
    refine st13 _ ?_
    show Steps p.tables e below (T13.setTop (mkF m 179 #[.val (.int p0), .val (.int p1), .val (.long p2), .second, .val (.int 4), .val (.int 0), .val (.int 0), .val (.int 1), .val (.int 0), .val (.long jam), .second, .val (.long 9223372036854775807), .second, .val (.ref b235), .val (.int 1)] [])) _
    refine st16 _ ?_
    show Steps p.tables e below (T16.setTop (mkF m 208 #[.val (.int p0), .val (.int p1), .val (.long p2), .second, .val (.int 4), .val (.int 0), .val (.int 0), .val (.int 1), .val (.int 0), .val (.long jam), .second, .val (.long 9223372036854775807), .second, .val (.ref b235), .val (.int 1)] [])) _
    refine st17 _ ?_
    show Steps p.tables e below (T17.setTop (mkF m 237 #[.val (.int p0), .val (.int p1), .val (.long p2), .second, .val (.int 4), .val (.int 0), .val (.int 0), .val (.int 1), .val (.int 0), .val (.long jam), .second, .val (.long 9223372036854775807), .second, .val (.ref b235), .val (.int 1)] [])) _
    refine st18 _ ?_
    refine XS.iload X18.here hx rfl (hb hby at_266) rfl ?_
    show Steps p.tables e below (T18.setTop (mkF m 268 #[.val (.int p0), .val (.int p1), .val (.long p2), .second, .val (.int 4), .val (.int 0), .val (.int 0), .val (.int 1), .val (.int 0), .val (.long jam), .second, .val (.long 9223372036854775807), .second, .val (.ref b235), .val (.int 1)] [(.int 1)])) _
    exact retN X18 hx (t := .boolean) Bd.returns (by simp) (hb hby at_268) hr
  · show QT n0 _ T18.heap _
    rw [e18]
    exact ⟨rfl, N18⟩
set_option maxRecDepth 65536 in
set_option maxHeartbeats 40000000 in
theorem rm0_252 (l : Launch) (Z : State) (a0 : Array Value) (hw : ∀ d ∈ tables_1, d.before a0 Z = true) (ws : List Jvm.Cond) (p0 : Int32) (p1 : Int32) (p2 : Int64) (jam : Int64) (a_cache : Addr) (h0 : Heap) (n0 : Nat) (Z0 : n0 ≤ h0.size) (f1 : (p0 &&& (3 : Int32)) = (3 : Int32)) (f2 : (p1 &&& (1 : Int32)) = (0 : Int32)) (f3 : (p1 &&& (2 : Int32)) = (0 : Int32)) (f4 : ¬ ((p1 &&& (4 : Int32)) = (0 : Int32))) (f5 : ¬ ((p1 &&& (8 : Int32)) = (0 : Int32))) (f6 : (p2 &&& (9223372036854775807 : Int64)) = jam) (f7 : ¬ ((lcmpW jam (0 : Int64)) < (0 : Int32))) (f8 : ¬ ((0 : Int32) < (lcmpW jam (9223372036854775807 : Int64)))) (f9 : ¬ ((lcmpW jam (-128 : Int64)) < (0 : Int32))) (f10 : S_0 Z h0 (.ref a_cache)) (f11 : OwnAll Z h0 a_cache "java/lang/Long") (f12 : E_0 Z h0 a_cache) :
    MetFree l x (head1 (Jvm.Cond.code x code maxLocals ret :: ws) room_1) (fun a U => a = #[(.int p0), (.int p1), (.long p2)] ∧ Z.Warmed39 U.vm ∧ U.heap = h0) (fun _ _ _ _ _ => True) (fun _ U o U' => ∃ v L, o = .returned v ∧ QT n0 v U'.heap L ∧ FrameEnd U o U' L room_1.cells room_1.slots) := by
  refine MetFree.of_bodySF (plainFor_of_name pn_hexwright_engine_SealedBidsHasBidPinLaw) hisR ?_
  intro p e s m args below meth c s₁ Bd hml0 hP hK
  obtain ⟨rfl, hZ, hh⟩ := hP
  have hx := Bd.exec
  have hby := Bd.bytes
  have hml : c.maxLocals = 15 := hml0
  have hown : s.vm.findClass "hexwright/engine/SealedBidsHasBidPinLaw" = some m.cls := findClass_of_methodNamed Bd.named
  have hnm := (name_of_methodNamed Bd.named Bd.method).1
  have X0 : Stand p l e room_1 s m #[(.int p0), (.int p1), (.long p2)] below meth c s₁ [] 0 0 := Stand.of_body Bd
  have e0 : s₁.heap = h0 := by rw [← hh, Bd.state]; rfl
  have N0 := Fr.nil n0
  obtain ⟨T1, L1, X1, e1, N1, st1⟩ := sg7_1 p0 p1 p2 (4 : Int32) X0 hx hZ hw hby hml hown e0 N0 Z0 f2
  obtain ⟨T2, L2, X2, e2, N2, st2⟩ := sg20_194 p0 p1 p2 (0 : Int32) X1 hx hZ hw hby hml hown e1 N1 Z0 f3
  obtain ⟨T3, L3, X3, e3, N3, st3⟩ := sg39_234 p0 p1 p2 (0 : Int32) (0 : Int32) X2 hx hZ hw hby hml hown e2 N2 Z0 f4
  obtain ⟨T4, L4, X4, e4, N4, st4⟩ := sg58_221 p0 p1 p2 (0 : Int32) (0 : Int32) (1 : Int32) X3 hx hZ hw hby hml hown e3 N3 Z0 f5
  obtain ⟨T5, L5, X5, e5, N5, st5⟩ := sg78_5 p0 p1 p2 (4 : Int32) (0 : Int32) (0 : Int32) (1 : Int32) (1 : Int32) jam X4 hx hZ hw hby hml hown e4 N4 Z0 f6
  obtain ⟨T6, h6, L6, b247, b248, kc249, X6, e6, N6, K6, le_b247, le_b248, o6_0, o6_1, o6_2, o6_3, o6_4, st6⟩ := sg90_204 p0 p1 p2 (0 : Int32) (0 : Int32) (1 : Int32) (1 : Int32) jam (9223372036854775807 : Int64) X5 hx hZ hw hby hml hown e5 N5 Z0 
  have sz_b247 : h0.size ≤ b247 := Nat.le_trans (Nat.le_refl _) le_b247
  have g_b247 : n0 ≤ b247 := Nat.le_trans Z0 sz_b247
  have sz_b248 : h0.size ≤ b248 := Nat.le_trans (Nat.le_refl _) le_b248
  have g_b248 : n0 ≤ b248 := Nat.le_trans Z0 sz_b248
  have KK6 : Keep h0 h6 [] := (Keep.refl h0 []).trans K6 (fun x hx => nomatch hx)
  obtain ⟨T7, L7, X7, e7, N7, st7⟩ := sg101_208 p0 p1 p2 (4 : Int32) (0 : Int32) (1 : Int32) (1 : Int32) jam b247 X6 hx hZ hw hby hml hown e6 N6 (Nat.le_trans Z0 KK6.1) 
  obtain ⟨T8, L8, X8, e8, N8, st8⟩ := sg116_209 p0 p1 p2 (4 : Int32) (0 : Int32) (1 : Int32) (1 : Int32) jam b247 X7 hx hZ hw hby hml hown e7 N7 (Nat.le_trans Z0 KK6.1) 
  have u10 : S_0 Z h6 (.ref a_cache) := own_sta_keep f10 K6 (fun _ q => nomatch q)
  have u11 : OwnAll Z h6 a_cache "java/lang/Long" := own_all_keep f11 K6 List.not_mem_nil
  obtain ⟨T9, h9, L9, bx250, X9, e9, N9, K9, o9_0, st9⟩ := sg131_242 p0 p1 p2 (4 : Int32) (0 : Int32) (0 : Int32) (1 : Int32) jam b247 b248 kc249 .null .null .null a_cache X8 hx hZ hw hby hml hown e8 N8 (Nat.le_trans Z0 KK6.1) o6_1 o6_2 f7 f8 f9 u10 u11 g_b248 o6_3 o6_0
  have KK9 : Keep h0 h9 [] := KK6.trans K9 (fun x hx => (List.mem_cons.mp hx).elim (fun q => q ▸ (Or.inr sz_b248)) (fun hx => nomatch hx))
  have u13 : F_0 Z h9 b247 (.ref b248) := Fld.keep o6_1 K9 (own_notin o6_4 List.not_mem_nil)
  have u14 : S_0 Z h9 (.ref a_cache) := own_sta_keep u10 K9 (own_ns (Arv.nostat o6_2) (fun _ q => nomatch q))
  have ne15 : a_cache ≠ b248 := Nat.ne_of_lt (Nat.lt_of_lt_of_le (Exa.lt f12) le_b248)
  have u16 : OwnAll Z h9 a_cache "java/lang/Long" := own_all_keep u11 K9 (own_notin ne15 List.not_mem_nil)
  have u17 : E_1 Z h9 b247 := Exa.keep o6_0 K9
  obtain ⟨T12, h12, L12, bx251, X12, e12, N12, K12, o12_0, st12⟩ := sg146_229 p0 p1 p2 (4 : Int32) (0 : Int32) (0 : Int32) (1 : Int32) jam b247 b248 kc249 .null .null (.ref bx250) a_cache X9 hx hZ hw hby hml hown e9 N9 (Nat.le_trans Z0 KK9.1) u13 o9_0 f7 f8 f9 u14 u16 g_b248 o6_3 u17
  have KK12 : Keep h0 h12 [] := KK9.trans K12 (fun x hx => (List.mem_cons.mp hx).elim (fun q => q ▸ (Or.inr sz_b248)) (fun hx => nomatch hx))
  have u19 : F_0 Z h12 b247 (.ref b248) := Fld.keep u13 K12 (own_notin o6_4 List.not_mem_nil)
  have u20 : E_1 Z h12 b247 := Exa.keep u17 K12
  obtain ⟨T18, L18, X18, e18, N18, st18⟩ := sg161_213 p0 p1 p2 (4 : Int32) (0 : Int32) (1 : Int32) (1 : Int32) jam (9223372036854775807 : Int64) b247 b248 kc249 .null (.ref bx250) (.ref bx251) X12 hx hZ hw hby hml hown e12 N12 (Nat.le_trans Z0 KK12.1) u19 o12_0 u20
  obtain ⟨T21, L21, X21, e21, N21, st21⟩ := sg179_215 p0 p1 p2 (0 : Int32) (1 : Int32) (1 : Int32) jam (9223372036854775807 : Int64) b247 b248 kc249 .null (.ref bx250) (.ref bx251) X18 hx hZ hw hby hml hown e18 N18 (Nat.le_trans Z0 KK12.1) u19 o12_0 u20
  obtain ⟨T22, L22, X22, e22, N22, st22⟩ := sg208_245 p0 p1 p2 (0 : Int32) (0 : Int32) (1 : Int32) jam (9223372036854775807 : Int64) b247 b248 kc249 .null .null bx250 (.ref bx251) X21 hx hZ hw hby hml hown e21 N21 (Nat.le_trans Z0 KK12.1) u19 o12_0 u20
  obtain ⟨T23, L23, X23, e23, N23, st23⟩ := sg237_232 p0 p1 p2 (0 : Int32) (0 : Int32) (1 : Int32) jam (9223372036854775807 : Int64) b247 b248 kc249 .null .null (.ref bx250) bx251 X22 hx hZ hw hby hml hown e22 N22 (Nat.le_trans Z0 KK12.1) u19 o12_0 u20
  obtain ⟨fs, hr, hrun, hended, hW, hsame⟩ := X23.leave (v := (some (.int 1))) (fun h => by rw [Bd.returns] at h; cases h)
  refine ⟨_, _, castTop (ef0_IIJ m p0 p1 p2) ?_, hrun, hended, _, _, rfl, ?_, ⟨_, rfl⟩, hW, hsame.mono (by decide) (by decide)⟩
  · show Steps p.tables e below (s₁.setTop (mkF m 0 #[.val (.int p0), .val (.int p1), .val (.long p2), .second, .unset, .unset, .unset, .unset, .unset, .unset, .unset, .unset, .unset, .unset, .unset] [])) _
    refine XS.iloadN X0.here hx rfl (hb hby at_0) rfl ?_
    refine XS.iconst X0.here hx rfl (hb hby at_1) ?_
    show Steps p.tables e below (s₁.setTop (mkF m 2 #[.val (.int p0), .val (.int p1), .val (.long p2), .second, .unset, .unset, .unset, .unset, .unset, .unset, .unset, .unset, .unset, .unset, .unset] [(.int 3), (.int p0)])) _
    refine XS.iand X0.here hx rfl (hb hby at_2) rfl ?_
    show Steps p.tables e below (s₁.setTop (mkF m 3 #[.val (.int p0), .val (.int p1), .val (.long p2), .second, .unset, .unset, .unset, .unset, .unset, .unset, .unset, .unset, .unset, .unset, .unset] [(.int (p0 &&& (3 : Int32)))])) _
    rw [f1]
    refine XS.iconst X0.here hx rfl (hb hby at_3) ?_
    show Steps p.tables e below (s₁.setTop (mkF m 4 #[.val (.int p0), .val (.int p1), .val (.long p2), .second, .unset, .unset, .unset, .unset, .unset, .unset, .unset, .unset, .unset, .unset, .unset] [(.int 1), (.int 3)])) _
    refine XS.iadd X0.here hx rfl (hb hby at_4) rfl ?_
    show Steps p.tables e below (s₁.setTop (mkF m 5 #[.val (.int p0), .val (.int p1), .val (.long p2), .second, .unset, .unset, .unset, .unset, .unset, .unset, .unset, .unset, .unset, .unset, .unset] [(.int ((3 : Int32) + (1 : Int32)))])) _
    rw [show ((3 : Int32) + (1 : Int32)) = (4 : Int32) from by decide]
    refine XS.istore X0.here hx rfl (hb hby at_5) rfl (l' := #[.val (.int p0), .val (.int p1), .val (.long p2), .second, .val (.int 4), .unset, .unset, .unset, .unset, .unset, .unset, .unset, .unset, .unset, .unset]) rfl ?_
    show Steps p.tables e below (s₁.setTop (mkF m 7 #[.val (.int p0), .val (.int p1), .val (.long p2), .second, .val (.int 4), .unset, .unset, .unset, .unset, .unset, .unset, .unset, .unset, .unset, .unset] [])) _
    refine st1 _ ?_
    show Steps p.tables e below (T1.setTop (mkF m 20 #[.val (.int p0), .val (.int p1), .val (.long p2), .second, .val (.int 4), .val (.int 0), .unset, .unset, .unset, .unset, .unset, .unset, .unset, .unset, .unset] [])) _
    refine st2 _ ?_
    show Steps p.tables e below (T2.setTop (mkF m 39 #[.val (.int p0), .val (.int p1), .val (.long p2), .second, .val (.int 4), .val (.int 0), .val (.int 0), .unset, .unset, .unset, .unset, .unset, .unset, .unset, .unset] [])) _
    refine st3 _ ?_
    show Steps p.tables e below (T3.setTop (mkF m 58 #[.val (.int p0), .val (.int p1), .val (.long p2), .second, .val (.int 4), .val (.int 0), .val (.int 0), .val (.int 1), .unset, .unset, .unset, .unset, .unset, .unset, .unset] [])) _
    refine st4 _ ?_
    show Steps p.tables e below (T4.setTop (mkF m 78 #[.val (.int p0), .val (.int p1), .val (.long p2), .second, .val (.int 4), .val (.int 0), .val (.int 0), .val (.int 1), .val (.int 1), .unset, .unset, .unset, .unset, .unset, .unset] [])) _
    refine st5 _ ?_
    show Steps p.tables e below (T5.setTop (mkF m 90 #[.val (.int p0), .val (.int p1), .val (.long p2), .second, .val (.int 4), .val (.int 0), .val (.int 0), .val (.int 1), .val (.int 1), .val (.long jam), .second, .val (.long 9223372036854775807), .second, .unset, .unset] [])) _
    refine st6 _ ?_
    show Steps p.tables e below (T6.setTop (mkF m 101 #[.val (.int p0), .val (.int p1), .val (.long p2), .second, .val (.int 4), .val (.int 0), .val (.int 0), .val (.int 1), .val (.int 1), .val (.long jam), .second, .val (.long 9223372036854775807), .second, .val (.ref b247), .unset] [])) _
    refine st7 _ ?_
    show Steps p.tables e below (T7.setTop (mkF m 116 #[.val (.int p0), .val (.int p1), .val (.long p2), .second, .val (.int 4), .val (.int 0), .val (.int 0), .val (.int 1), .val (.int 1), .val (.long jam), .second, .val (.long 9223372036854775807), .second, .val (.ref b247), .unset] [])) _
    refine st8 _ ?_
    show Steps p.tables e below (T8.setTop (mkF m 131 #[.val (.int p0), .val (.int p1), .val (.long p2), .second, .val (.int 4), .val (.int 0), .val (.int 0), .val (.int 1), .val (.int 1), .val (.long jam), .second, .val (.long 9223372036854775807), .second, .val (.ref b247), .unset] [])) _
    refine st9 _ ?_
    show Steps p.tables e below (T9.setTop (mkF m 146 #[.val (.int p0), .val (.int p1), .val (.long p2), .second, .val (.int 4), .val (.int 0), .val (.int 0), .val (.int 1), .val (.int 1), .val (.long jam), .second, .val (.long 9223372036854775807), .second, .val (.ref b247), .unset] [])) _
    refine st12 _ ?_
    show Steps p.tables e below (T12.setTop (mkF m 161 #[.val (.int p0), .val (.int p1), .val (.long p2), .second, .val (.int 4), .val (.int 0), .val (.int 0), .val (.int 1), .val (.int 1), .val (.long jam), .second, .val (.long 9223372036854775807), .second, .val (.ref b247), .unset] [])) _
    refine st18 _ ?_
    show Steps p.tables e below (T18.setTop (mkF m 179 #[.val (.int p0), .val (.int p1), .val (.long p2), .second, .val (.int 4), .val (.int 0), .val (.int 0), .val (.int 1), .val (.int 1), .val (.long jam), .second, .val (.long 9223372036854775807), .second, .val (.ref b247), .val (.int 1)] [])) _
    refine st21 _ ?_
    show Steps p.tables e below (T21.setTop (mkF m 208 #[.val (.int p0), .val (.int p1), .val (.long p2), .second, .val (.int 4), .val (.int 0), .val (.int 0), .val (.int 1), .val (.int 1), .val (.long jam), .second, .val (.long 9223372036854775807), .second, .val (.ref b247), .val (.int 1)] [])) _
    refine st22 _ ?_
    show Steps p.tables e below (T22.setTop (mkF m 237 #[.val (.int p0), .val (.int p1), .val (.long p2), .second, .val (.int 4), .val (.int 0), .val (.int 0), .val (.int 1), .val (.int 1), .val (.long jam), .second, .val (.long 9223372036854775807), .second, .val (.ref b247), .val (.int 1)] [])) _
    refine st23 _ ?_
    refine XS.iload X23.here hx rfl (hb hby at_266) rfl ?_
    show Steps p.tables e below (T23.setTop (mkF m 268 #[.val (.int p0), .val (.int p1), .val (.long p2), .second, .val (.int 4), .val (.int 0), .val (.int 0), .val (.int 1), .val (.int 1), .val (.long jam), .second, .val (.long 9223372036854775807), .second, .val (.ref b247), .val (.int 1)] [(.int 1)])) _
    exact retN X23 hx (t := .boolean) Bd.returns (by simp) (hb hby at_268) hr
  · show QT n0 _ T23.heap _
    rw [e23]
    exact ⟨rfl, N23⟩
set_option maxRecDepth 65536 in
set_option maxHeartbeats 40000000 in
theorem sg20_253 {p : Program} {l : Launch} {e : Env} {s : State} {m : MethodId} {below : List Frame} {meth : Method} {c : Code} {T0 : State} {locs : List Loc} {Z : State} {a0 : Array Value} (p0 : Int32) (p1 : Int32) (p2 : Int64) (gq5 : Int32) {h0 : Heap} {n0 : Nat} (X0 : Stand p l e room_1 s m #[(.int p0), (.int p1), (.long p2)] below meth c T0 locs 0 0) (hx : p.tables.exec = Jvm.exec) (hZ : Z.Warmed39 s.vm) (hw : ∀ d ∈ tables_1, d.before a0 Z = true) (hby : c.code = code) (hml : c.maxLocals = 15) (hown : s.vm.findClass "hexwright/engine/SealedBidsHasBidPinLaw" = some m.cls) (e0 : T0.heap = h0) (N0 : Fr n0 locs) (Z0 : n0 ≤ h0.size) (f1 : ¬ ((p1 &&& (2 : Int32)) = (0 : Int32))) :
    ∃ (T : State) (L : List Loc), Stand p l e room_1 s m #[(.int p0), (.int p1), (.long p2)] below meth c T L 0 0 ∧ T.heap = h0 ∧ Fr n0 L ∧ (∀ target, Steps p.tables e below (T.setTop (mkF m 39 #[.val (.int p0), .val (.int p1), .val (.long p2), .second, .val (.int 4), .val (.int gq5), .val (.int 1), .unset, .unset, .unset, .unset, .unset, .unset, .unset, .unset] [])) target → Steps p.tables e below (T0.setTop (mkF m 20 #[.val (.int p0), .val (.int p1), .val (.long p2), .second, .val (.int 4), .val (.int gq5), .unset, .unset, .unset, .unset, .unset, .unset, .unset, .unset, .unset] [])) target) := by
  refine ⟨T0, _, X0, e0, N0, fun target kt => ?_⟩
  show Steps p.tables e below (T0.setTop (mkF m 20 #[.val (.int p0), .val (.int p1), .val (.long p2), .second, .val (.int 4), .val (.int gq5), .unset, .unset, .unset, .unset, .unset, .unset, .unset, .unset, .unset] [])) _
  refine XS.iload X0.here hx rfl (hb hby at_20) rfl ?_
  refine XS.iconst X0.here hx rfl (hb hby at_22) ?_
  refine XS.icmpNo X0.here hx rfl (hb hby at_23) rfl (by decide) ?_
  refine XS.iloadN X0.here hx rfl (hb hby at_26) rfl ?_
  refine XS.iconst X0.here hx rfl (hb hby at_27) ?_
  show Steps p.tables e below (T0.setTop (mkF m 28 #[.val (.int p0), .val (.int p1), .val (.long p2), .second, .val (.int 4), .val (.int gq5), .unset, .unset, .unset, .unset, .unset, .unset, .unset, .unset, .unset] [(.int 2), (.int p1)])) _
  refine XS.iand X0.here hx rfl (hb hby at_28) rfl ?_
  refine XS.ifNo X0.here hx rfl (hb hby at_29) rfl ((if0 _ _).trans (feq (f1 : ¬ ((p1 &&& (2 : Int32)) = (0 : Int32)))).1) ?_
  refine XS.iconst X0.here hx rfl (hb hby at_32) ?_
  refine XS.goto X0.here hx rfl (pc0 := 33) (pc' := 37) rfl (hb hby at_33) (by decide) (by decide) ?_
  refine XS.istore X0.here hx rfl (hb hby at_37) rfl (l' := #[.val (.int p0), .val (.int p1), .val (.long p2), .second, .val (.int 4), .val (.int gq5), .val (.int 1), .unset, .unset, .unset, .unset, .unset, .unset, .unset, .unset]) rfl ?_
  show Steps p.tables e below (T0.setTop (mkF m 39 #[.val (.int p0), .val (.int p1), .val (.long p2), .second, .val (.int 4), .val (.int gq5), .val (.int 1), .unset, .unset, .unset, .unset, .unset, .unset, .unset, .unset] [])) _
  exact kt
def Q3_259 (Z : State) (c1_a : Addr) (c2_k : ClassId) (gx0 : Value) (gx2 : Value) (gx3 : Value) (h0 : Heap) (n0 : Nat) (v : Option Value) (h : Heap) (L : List Loc) : Prop := ∃ (bx257 : Addr), v = none ∧ Fr n0 L ∧ Keep h0 h [c1_a] ∧ Arv Z h c1_a c2_k (.object "java/lang/Long") (4 : Int32) [gx0, (.ref bx257), gx2, gx3] .null
set_option maxRecDepth 65536 in
set_option maxHeartbeats 40000000 in
theorem rm3_258 (l : Launch) (Z : State) (a0 : Array Value) (hw : ∀ d ∈ tables_1, d.before a0 Z = true) (ws : List Jvm.Cond) (c0_a : Addr) (jam : Int64) (c1_a : Addr) (c2_k : ClassId) (gx0 : Value) (gx2 : Value) (gx3 : Value) (a_cache : Addr) (h0 : Heap) (n0 : Nat) (Z0 : n0 ≤ h0.size) (f1 : F_0 Z h0 c0_a (.ref c1_a)) (f2 : Arv Z h0 c1_a c2_k (.object "java/lang/Long") (4 : Int32) [gx0, .null, gx2, gx3] .null) (f3 : ¬ ((lcmpW jam (0 : Int64)) < (0 : Int32))) (f4 : ¬ ((0 : Int32) < (lcmpW jam (9223372036854775807 : Int64)))) (f5 : ¬ ((lcmpW jam (-128 : Int64)) < (0 : Int32))) (f6 : S_0 Z h0 (.ref a_cache)) (f7 : OwnAll Z h0 a_cache "java/lang/Long") (f8 : n0 ≤ c1_a) (f9 : Ovr Z c2_k "java/lang/Long") :
    MetFree l M_5 (head1 (Jvm.Cond.code M_5 prog_14_method_2_code 6 none :: ws) R_4_1_1_55) (fun a U => a = #[(.ref c0_a), (.int 2), (.long jam), (.long 9223372036854775807)] ∧ Z.Warmed39 U.vm ∧ U.heap = h0) (fun _ _ _ _ _ => True) (fun _ U o U' => ∃ v L, o = .returned v ∧ Q3_259 Z c1_a c2_k gx0 gx2 gx3 h0 n0 v U'.heap L ∧ FrameEnd U o U' L R_4_1_1_55.cells R_4_1_1_55.slots) := by
  refine MetFree.of_bodySF (plainFor_of_name pn_hexwright_engine_SealedBids) hisR ?_
  intro p e s m args below meth c s₁ Bd hml0 hP hK
  obtain ⟨rfl, hZ, hh⟩ := hP
  have hx := Bd.exec
  have hby := Bd.bytes
  have hml : c.maxLocals = 6 := hml0
  have hown : s.vm.findClass "hexwright/engine/SealedBids" = some m.cls := findClass_of_methodNamed Bd.named
  have hnm := (name_of_methodNamed Bd.named Bd.method).1
  have X0 : Stand p l e R_4_1_1_55 s m #[(.ref c0_a), (.int 2), (.long jam), (.long 9223372036854775807)] below meth c s₁ [] 0 0 := Stand.of_body Bd
  have e0 : s₁.heap = h0 := by rw [← hh, Bd.state]; rfl
  have N0 := Fr.nil n0
  obtain ⟨T1, X1, e1, st1⟩ := getF X0 hx hZ hown (host := "") (Or.inl (tw_12 hw)) Via.refl e0 f1 (g := (mkF m 1 #[.val (.ref c0_a), .val (.int 2), .val (.long jam), .second, .val (.long 9223372036854775807), .second] [(.ref c0_a)])) rfl rfl (hb hby d3_1)
  have va2 := f2
  obtain ⟨cl2, Ar2, -, S2, -, H2, -⟩ := va2
  have hin2 : ¬ ((1 : Int32) < 0 ∨ cl2.slots.size ≤ ((1 : Int32)).toNatClampNeg) := inb_of S2 ⟨by decide, by decide⟩
  have hat2 : cl2.slots[((1 : Int32)).toNatClampNeg]? = some .null := H2 _ (Nat.lt_of_not_le fun y => hin2 (Or.inr y))
  obtain ⟨T3, X3, e3, st3⟩ := getF X1 hx hZ hown (host := "") (Or.inl (tw_12 hw)) Via.refl e1 f1 (g := (mkF m 56 #[.val (.ref c0_a), .val (.int 2), .val (.long jam), .second, .val (.long 9223372036854775807), .second] [(.ref c0_a)])) rfl rfl (hb hby d3_56)
  -- pc 63: java/lang/Long.valueOf
  obtain ⟨_, _, ⟨T4, L4, k4, n4⟩, -, X4, ⟨Lc4, hQ4, l4, y4, z4⟩, st4⟩ := Jvm.LawKit.callS X3 hx (y := M_4) hown (mvT hZ (tw_19 hw)) (mvT hZ (tw_20 hw)) (mvT hZ (tw_21 hw)) (mvT hZ (tw_22 hw)) (by decide) (backOf (W := 2) (rmB_38 l Z a0 hw [] jam a_cache h0 n0 Z0 f5 f6 f7) hZ (tw_22 hw) (tw_21 hw) (by decide) (by decide)) (g := (mkF m 63 #[.val (.ref c0_a), .val (.int 2), .val (.long jam), .second, .val (.long 9223372036854775807), .second] [(.long jam), (.int 1), (.ref c1_a)])) rfl (by rw [hml]; rfl) (argsL := [(.long jam)]) (rest := [(.int 1), (.ref c1_a)]) (lenOf pd_4 rfl) rfl (by show 2 * 0 + _ ≤ _; exact Nat.le_of_eq rfl) (hb hby d3_63) (fun _ _ => ⟨rfl, e3, (by decide : 0 + 1 ≤ _), (by decide : 0 + 1 ≤ _)⟩)
  dsimp only [Pt.U, Pt.locs, Pt.cells, Pt.slots] at X4 l4 y4 z4 st4 hQ4
  subst l4 y4 z4
  obtain ⟨bx257, rfl, Nq4, K4, o4_0⟩ := hQ4
  have N4 := Fr.app N0 Nq4
  have KK4 : Keep h0 T4.heap [c1_a] := (Keep.refl h0 [c1_a]).trans K4 (fun x hx => nomatch hx)
  have u5 : Arv Z T4.heap c1_a c2_k (.object "java/lang/Long") (4 : Int32) [gx0, .null, gx2, gx3] .null := Arv.keep f2 K4 List.not_mem_nil
  have va6 := u5
  obtain ⟨cl6, Ar6, q6, S6, N6_, H6, G6⟩ := va6
  have hin6 : ¬ ((1 : Int32) < 0 ∨ cl6.slots.size ≤ ((1 : Int32)).toNatClampNeg) := inb_of S6 ⟨by decide, by decide⟩
  obtain ⟨T7, h7, X7, e7, W7, st7⟩ := stR X4 hx hZ rfl Ar6 (j := (1 : Int32)) hin6 rfl (Sto.ofV Ar6 q6 f9 (Ins.self o4_0)) (g := (mkF m 66 #[.val (.ref c0_a), .val (.int 2), .val (.long jam), .second, .val (.long 9223372036854775807), .second] [(.ref bx257), (.int 1), (.ref c1_a)])) rfl rfl (hb hby d3_66)
  have Vw7 : Arv Z h7 c1_a c2_k (.object "java/lang/Long") (4 : Int32) [gx0, (.ref bx257), gx2, gx3] .null := Arv.set Ar6 q6 S6 N6_ H6 G6 rfl W7 1 rfl (Nat.le_of_ble_eq_true rfl)
  have KK7 : Keep h0 h7 [c1_a] := KK4.wr W7 (Or.inl (List.mem_of_getElem? (i := 0) rfl))
  have N7 := Fr.snoc X7 N4 f8
  obtain ⟨fs, hr, hrun, hended, hW, hsame⟩ := X7.leave (v := none) (fun _ => rfl)
  refine ⟨_, _, castTop (ef3_RIJJ m c0_a (2 : Int32) jam (9223372036854775807 : Int64)) ?_, hrun, hended, _, _, rfl, ?_, ⟨_, rfl⟩, hW, hsame.mono (by decide) (by decide)⟩
  · show Steps p.tables e below (s₁.setTop (mkF m 0 #[.val (.ref c0_a), .val (.int 2), .val (.long jam), .second, .val (.long 9223372036854775807), .second] [])) _
    refine XS.aloadN X0.here hx rfl (hb hby d3_0) rfl rfl ?_
    show Steps p.tables e below (s₁.setTop (mkF m 1 #[.val (.ref c0_a), .val (.int 2), .val (.long jam), .second, .val (.long 9223372036854775807), .second] [(.ref c0_a)])) _
    refine st1 _ ?_
    refine XS.iloadN X1.here hx rfl (hb hby d3_4) rfl ?_
    refine XS.iconst X1.here hx rfl (hb hby d3_5) ?_
    show Steps p.tables e below (T1.setTop (mkF m 6 #[.val (.ref c0_a), .val (.int 2), .val (.long jam), .second, .val (.long 9223372036854775807), .second] [(.int 1), (.int 2), (.ref c1_a)])) _
    refine XS.isub X1.here hx rfl (hb hby d3_6) rfl ?_
    show Steps p.tables e below (T1.setTop (mkF m 7 #[.val (.ref c0_a), .val (.int 2), .val (.long jam), .second, .val (.long 9223372036854775807), .second] [(.int ((2 : Int32) - (1 : Int32))), (.ref c1_a)])) _
    rw [show ((2 : Int32) - (1 : Int32)) = (1 : Int32) from by decide]
    show Steps p.tables e below (T1.setTop (mkF m 7 #[.val (.ref c0_a), .val (.int 2), .val (.long jam), .second, .val (.long 9223372036854775807), .second] [(.int 1), (.ref c1_a)])) _
    refine X1.aaload hx (j := (1 : Int32)) (v := .null) (by rw [e1]; exact Ar2.1) (State.isArrayOf_alike hZ.alike Ar2.2.1) rfl Ar2.2.2 hin2 hat2 (g := (mkF m 7 #[.val (.ref c0_a), .val (.int 2), .val (.long jam), .second, .val (.long 9223372036854775807), .second] [(.int 1), (.ref c1_a)])) rfl rfl (hb hby d3_7) _ ?_
    refine XS.ifnullYes X1.here hx rfl (pc0 := 8) (pc' := 25) rfl (hb hby d3_8) rfl (by decide) (by decide) ?_
    refine XS.lloadN X1.here hx rfl (hb hby d3_25) rfl ?_
    refine XS.lconst X1.here hx rfl (hb hby d3_26) ?_
    show Steps p.tables e below (T1.setTop (mkF m 27 #[.val (.ref c0_a), .val (.int 2), .val (.long jam), .second, .val (.long 9223372036854775807), .second] [(.long 0), (.long jam)])) _
    refine XS.lcmp X1.here hx rfl (hb hby d3_27) rfl ?_
    refine XS.ifNo X1.here hx rfl (hb hby d3_28) rfl ((if0 _ _).trans (flt (f3 : ¬ ((lcmpW jam (0 : Int64)) < (0 : Int32)))).1) ?_
    refine XS.lloadN X1.here hx rfl (hb hby d3_31) rfl ?_
    refine XS.lload X1.here hx rfl (hb hby d3_32) rfl ?_
    show Steps p.tables e below (T1.setTop (mkF m 34 #[.val (.ref c0_a), .val (.int 2), .val (.long jam), .second, .val (.long 9223372036854775807), .second] [(.long 9223372036854775807), (.long jam)])) _
    refine XS.lcmp X1.here hx rfl (hb hby d3_34) rfl ?_
    refine XS.ifYes X1.here hx rfl (pc0 := 35) (pc' := 55) rfl (hb hby d3_35) rfl ((if0 _ _).trans (flt (f4 : ¬ ((0 : Int32) < (lcmpW jam (9223372036854775807 : Int64))))).2.2.2) (by decide) (by decide) ?_
    refine XS.aloadN X1.here hx rfl (hb hby d3_55) rfl rfl ?_
    show Steps p.tables e below (T1.setTop (mkF m 56 #[.val (.ref c0_a), .val (.int 2), .val (.long jam), .second, .val (.long 9223372036854775807), .second] [(.ref c0_a)])) _
    refine st3 _ ?_
    refine XS.iloadN X3.here hx rfl (hb hby d3_59) rfl ?_
    refine XS.iconst X3.here hx rfl (hb hby d3_60) ?_
    show Steps p.tables e below (T3.setTop (mkF m 61 #[.val (.ref c0_a), .val (.int 2), .val (.long jam), .second, .val (.long 9223372036854775807), .second] [(.int 1), (.int 2), (.ref c1_a)])) _
    refine XS.isub X3.here hx rfl (hb hby d3_61) rfl ?_
    show Steps p.tables e below (T3.setTop (mkF m 62 #[.val (.ref c0_a), .val (.int 2), .val (.long jam), .second, .val (.long 9223372036854775807), .second] [(.int ((2 : Int32) - (1 : Int32))), (.ref c1_a)])) _
    rw [show ((2 : Int32) - (1 : Int32)) = (1 : Int32) from by decide]
    refine XS.lloadN X3.here hx rfl (hb hby d3_62) rfl ?_
    show Steps p.tables e below (T3.setTop (mkF m 63 #[.val (.ref c0_a), .val (.int 2), .val (.long jam), .second, .val (.long 9223372036854775807), .second] [(.long jam), (.int 1), (.ref c1_a)])) _
    refine st4 _ ?_
    show Steps p.tables e below (T4.setTop (mkF m 66 #[.val (.ref c0_a), .val (.int 2), .val (.long jam), .second, .val (.long 9223372036854775807), .second] [(.ref bx257), (.int 1), (.ref c1_a)])) _
    refine st7 _ ?_
    show Steps p.tables e below (T7.setTop (mkF m 67 #[.val (.ref c0_a), .val (.int 2), .val (.long jam), .second, .val (.long 9223372036854775807), .second] [])) _
    exact X7.returnOut hx Bd.returns (hb hby d3_67) hr
  · show Q3_259 Z c1_a c2_k gx0 gx2 gx3 h0 n0 _ T7.heap _
    rw [e7]
    exact ⟨bx257, rfl, N7, KK7, Vw7⟩
set_option maxRecDepth 65536 in
set_option maxHeartbeats 40000000 in
theorem sg116_261 {p : Program} {l : Launch} {e : Env} {s : State} {m : MethodId} {below : List Frame} {meth : Method} {c : Code} {T0 : State} {locs : List Loc} {Z : State} {a0 : Array Value} (p0 : Int32) (p1 : Int32) (p2 : Int64) (gq4 : Int32) (gq5 : Int32) (gq7 : Int32) (gq8 : Int32) (jam : Int64) (c0_a : Addr) (c1_a : Addr) (c2_k : ClassId) (gx0 : Value) (gx2 : Value) (gx3 : Value) (a_cache : Addr) {h0 : Heap} {n0 : Nat} (X0 : Stand p l e room_1 s m #[(.int p0), (.int p1), (.long p2)] below meth c T0 locs 3 6) (hx : p.tables.exec = Jvm.exec) (hZ : Z.Warmed39 s.vm) (hw : ∀ d ∈ tables_1, d.before a0 Z = true) (hby : c.code = code) (hml : c.maxLocals = 15) (hown : s.vm.findClass "hexwright/engine/SealedBidsHasBidPinLaw" = some m.cls) (e0 : T0.heap = h0) (N0 : Fr n0 locs) (Z0 : n0 ≤ h0.size) (f1 : F_0 Z h0 c0_a (.ref c1_a)) (f2 : Arv Z h0 c1_a c2_k (.object "java/lang/Long") (4 : Int32) [gx0, .null, gx2, gx3] .null) (f3 : ¬ ((lcmpW jam (0 : Int64)) < (0 : Int32))) (f4 : ¬ ((0 : Int32) < (lcmpW jam (9223372036854775807 : Int64)))) (f5 : ¬ ((lcmpW jam (-128 : Int64)) < (0 : Int32))) (f6 : S_0 Z h0 (.ref a_cache)) (f7 : OwnAll Z h0 a_cache "java/lang/Long") (f8 : n0 ≤ c1_a) (f9 : Ovr Z c2_k "java/lang/Long") (f10 : E_1 Z h0 c0_a) :
    ∃ (T : State) (h : Heap) (L : List Loc) (bx260 : Addr), Stand p l e room_1 s m #[(.int p0), (.int p1), (.long p2)] below meth c T L 4 7 ∧ T.heap = h ∧ Fr n0 L ∧ Keep h0 h [c1_a] ∧ Arv Z h c1_a c2_k (.object "java/lang/Long") (4 : Int32) [gx0, (.ref bx260), gx2, gx3] .null ∧ (∀ target, Steps p.tables e below (T.setTop (mkF m 131 #[.val (.int p0), .val (.int p1), .val (.long p2), .second, .val (.int gq4), .val (.int gq5), .val (.int 1), .val (.int gq7), .val (.int gq8), .val (.long jam), .second, .val (.long 9223372036854775807), .second, .val (.ref c0_a), .unset] [])) target → Steps p.tables e below (T0.setTop (mkF m 116 #[.val (.int p0), .val (.int p1), .val (.long p2), .second, .val (.int gq4), .val (.int gq5), .val (.int 1), .val (.int gq7), .val (.int gq8), .val (.long jam), .second, .val (.long 9223372036854775807), .second, .val (.ref c0_a), .unset] [])) target) := by
  -- pc 128: hexwright/engine/SealedBids.bid
  obtain ⟨cq1, kq1, q1a, q1b, q1c⟩ := isOf hZ e0 f10
  obtain ⟨_, _, ⟨T1, L1, k1, n1⟩, -, X1, ⟨Lc1, hQ1, l1, y1, z1⟩, st1⟩ := X0.virtualBack hx (y := M_5) (z := M_5) hown (mvT hZ (tw_14 hw)) (mvT hZ (tw_15 hw)) (notFace_of_selects (args := #[]) (mvT hZ (tw_17 hw))) (mvT hZ (tw_17 hw)) (mvT hZ (tw_16 hw)) (by decide) (backOf (W := 0) (rm3_258 l Z a0 hw [] c0_a jam c1_a c2_k gx0 gx2 gx3 a_cache h0 n0 Z0 f1 f2 f3 f4 f5 f6 f7 f8 f9) hZ (tw_18 hw) (tw_3 hw) (by decide) (by decide)) q1a q1c (g := (mkF m 128 #[.val (.int p0), .val (.int p1), .val (.long p2), .second, .val (.int gq4), .val (.int gq5), .val (.int 1), .val (.int gq7), .val (.int gq8), .val (.long jam), .second, .val (.long 9223372036854775807), .second, .val (.ref c0_a), .unset] [(.long 9223372036854775807), (.long jam), (.int 2), (.ref c0_a)])) rfl (by rw [hml]; rfl) (Steps.refl _) (argsL := [(.int 2), (.long jam), (.long 9223372036854775807)]) (rest := []) (lenOf pd_5 rfl) rfl (by show 2 * 0 + _ ≤ _; exact Nat.le_of_eq rfl) (hb hby at_128) (fun _ _ => ⟨rfl, e0, (by decide : 3 + 1 ≤ _), (by decide : 6 + 1 ≤ _)⟩)
  dsimp only [Pt.U, Pt.locs, Pt.cells, Pt.slots] at X1 l1 y1 z1 st1 hQ1
  subst l1 y1 z1
  obtain ⟨bx260, rfl, Nq1, K1, o1_0⟩ := hQ1
  have N1 := Fr.app N0 Nq1
  have KK1 : Keep h0 T1.heap [c1_a] := (Keep.refl h0 [c1_a]).trans K1 (fun x hx => (List.mem_cons.mp hx).elim (fun q => q ▸ (Or.inl (List.mem_of_getElem? (i := 0) rfl))) (fun hx => nomatch hx))
  refine ⟨T1, _, _, bx260, (X1.more (by decide) (by decide)), rfl, N1, KK1, o1_0, fun target kt => ?_⟩
  show Steps p.tables e below (T0.setTop (mkF m 116 #[.val (.int p0), .val (.int p1), .val (.long p2), .second, .val (.int gq4), .val (.int gq5), .val (.int 1), .val (.int gq7), .val (.int gq8), .val (.long jam), .second, .val (.long 9223372036854775807), .second, .val (.ref c0_a), .unset] [])) _
  refine XS.iload X0.here hx rfl (hb hby at_116) rfl ?_
  refine XS.ifNo X0.here hx rfl (hb hby at_118) rfl (by decide) ?_
  refine XS.aload X0.here hx rfl (hb hby at_121) rfl rfl ?_
  refine XS.iconst X0.here hx rfl (hb hby at_123) ?_
  refine XS.lload X0.here hx rfl (hb hby at_124) rfl ?_
  show Steps p.tables e below (T0.setTop (mkF m 126 #[.val (.int p0), .val (.int p1), .val (.long p2), .second, .val (.int gq4), .val (.int gq5), .val (.int 1), .val (.int gq7), .val (.int gq8), .val (.long jam), .second, .val (.long 9223372036854775807), .second, .val (.ref c0_a), .unset] [(.long jam), (.int 2), (.ref c0_a)])) _
  refine XS.lload X0.here hx rfl (hb hby at_126) rfl ?_
  show Steps p.tables e below (T0.setTop (mkF m 128 #[.val (.int p0), .val (.int p1), .val (.long p2), .second, .val (.int gq4), .val (.int gq5), .val (.int 1), .val (.int gq7), .val (.int gq8), .val (.long jam), .second, .val (.long 9223372036854775807), .second, .val (.ref c0_a), .unset] [(.long 9223372036854775807), (.long jam), (.int 2), (.ref c0_a)])) _
  refine st1.trans ?_
  show Steps p.tables e below (T1.setTop (mkF m 131 #[.val (.int p0), .val (.int p1), .val (.long p2), .second, .val (.int gq4), .val (.int gq5), .val (.int 1), .val (.int gq7), .val (.int gq8), .val (.long jam), .second, .val (.long 9223372036854775807), .second, .val (.ref c0_a), .unset] [])) _
  exact kt
set_option maxRecDepth 65536 in
set_option maxHeartbeats 40000000 in
theorem rm5_263 (l : Launch) (Z : State) (a0 : Array Value) (hw : ∀ d ∈ tables_1, d.before a0 Z = true) (ws : List Jvm.Cond) (c0_a : Addr) (c1_a : Addr) (c2_k : ClassId) (gx0 : Value) (c3_a : Addr) (gx2 : Value) (gx3 : Value) (h0 : Heap) (n0 : Nat) (Z0 : n0 ≤ h0.size) (f1 : F_0 Z h0 c0_a (.ref c1_a)) (f2 : Arv Z h0 c1_a c2_k (.object "java/lang/Long") (4 : Int32) [gx0, (.ref c3_a), gx2, gx3] .null) :
    MetFree l M_1 (head1 (Jvm.Cond.code M_1 prog_14_method_4_code 2 (some .boolean) :: ws) R_0_0_0_0) (fun a U => a = #[(.ref c0_a), (.int 2)] ∧ Z.Warmed39 U.vm ∧ U.heap = h0) (fun _ _ _ _ _ => True) (fun _ U o U' => ∃ v L, o = .returned v ∧ QP (some (.int 1)) h0 n0 v U'.heap L ∧ FrameEnd U o U' L R_0_0_0_0.cells R_0_0_0_0.slots) := by
  refine MetFree.of_bodySF (plainFor_of_name pn_hexwright_engine_SealedBids) hisR ?_
  intro p e s m args below meth c s₁ Bd hml0 hP hK
  obtain ⟨rfl, hZ, hh⟩ := hP
  have hx := Bd.exec
  have hby := Bd.bytes
  have hml : c.maxLocals = 2 := hml0
  have hown : s.vm.findClass "hexwright/engine/SealedBids" = some m.cls := findClass_of_methodNamed Bd.named
  have hnm := (name_of_methodNamed Bd.named Bd.method).1
  have X0 : Stand p l e R_0_0_0_0 s m #[(.ref c0_a), (.int 2)] below meth c s₁ [] 0 0 := Stand.of_body Bd
  have e0 : s₁.heap = h0 := by rw [← hh, Bd.state]; rfl
  have N0 := Fr.nil n0
  obtain ⟨T1, X1, e1, st1⟩ := getF X0 hx hZ hown (host := "") (Or.inl (tw_12 hw)) Via.refl e0 f1 (g := (mkF m 1 #[.val (.ref c0_a), .val (.int 2)] [(.ref c0_a)])) rfl rfl (hb hby d5_1)
  have va2 := f2
  obtain ⟨cl2, Ar2, -, S2, -, H2, -⟩ := va2
  have hin2 : ¬ ((1 : Int32) < 0 ∨ cl2.slots.size ≤ ((1 : Int32)).toNatClampNeg) := inb_of S2 ⟨by decide, by decide⟩
  have hat2 : cl2.slots[((1 : Int32)).toNatClampNeg]? = some (.ref c3_a) := H2 _ (Nat.lt_of_not_le fun y => hin2 (Or.inr y))
  obtain ⟨fs, hr, hrun, hended, hW, hsame⟩ := X1.leave (v := (some (.int 1))) (fun h => by rw [Bd.returns] at h; cases h)
  refine ⟨_, _, castTop (ef5_RI m c0_a (2 : Int32)) ?_, hrun, hended, _, _, rfl, ?_, ⟨_, rfl⟩, hW, hsame.mono (by decide) (by decide)⟩
  · show Steps p.tables e below (s₁.setTop (mkF m 0 #[.val (.ref c0_a), .val (.int 2)] [])) _
    refine XS.aloadN X0.here hx rfl (hb hby d5_0) rfl rfl ?_
    show Steps p.tables e below (s₁.setTop (mkF m 1 #[.val (.ref c0_a), .val (.int 2)] [(.ref c0_a)])) _
    refine st1 _ ?_
    refine XS.iloadN X1.here hx rfl (hb hby d5_4) rfl ?_
    refine XS.iconst X1.here hx rfl (hb hby d5_5) ?_
    show Steps p.tables e below (T1.setTop (mkF m 6 #[.val (.ref c0_a), .val (.int 2)] [(.int 1), (.int 2), (.ref c1_a)])) _
    refine XS.isub X1.here hx rfl (hb hby d5_6) rfl ?_
    show Steps p.tables e below (T1.setTop (mkF m 7 #[.val (.ref c0_a), .val (.int 2)] [(.int ((2 : Int32) - (1 : Int32))), (.ref c1_a)])) _
    rw [show ((2 : Int32) - (1 : Int32)) = (1 : Int32) from by decide]
    show Steps p.tables e below (T1.setTop (mkF m 7 #[.val (.ref c0_a), .val (.int 2)] [(.int 1), (.ref c1_a)])) _
    refine X1.aaload hx (j := (1 : Int32)) (v := (.ref c3_a)) (by rw [e1]; exact Ar2.1) (State.isArrayOf_alike hZ.alike Ar2.2.1) rfl Ar2.2.2 hin2 hat2 (g := (mkF m 7 #[.val (.ref c0_a), .val (.int 2)] [(.int 1), (.ref c1_a)])) rfl rfl (hb hby d5_7) _ ?_
    refine XS.ifnullNo X1.here hx rfl (hb hby d5_8) rfl ?_
    refine XS.iconst X1.here hx rfl (hb hby d5_11) ?_
    refine XS.goto X1.here hx rfl (pc0 := 12) (pc' := 16) rfl (hb hby d5_12) (by decide) (by decide) ?_
    show Steps p.tables e below (T1.setTop (mkF m 16 #[.val (.ref c0_a), .val (.int 2)] [(.int 1)])) _
    exact retN X1 hx (t := .boolean) Bd.returns (by simp) (hb hby d5_16) hr
  · show QP (some (.int 1)) h0 n0 _ T1.heap _
    rw [e1]
    exact ⟨rfl, N0, rfl⟩
set_option maxRecDepth 65536 in
set_option maxHeartbeats 40000000 in
theorem sg179_264 {p : Program} {l : Launch} {e : Env} {s : State} {m : MethodId} {below : List Frame} {meth : Method} {c : Code} {T0 : State} {locs : List Loc} {Z : State} {a0 : Array Value} (p0 : Int32) (p1 : Int32) (p2 : Int64) (gq5 : Int32) (gq7 : Int32) (gq8 : Int32) (jam : Int64) (gq11 : Int64) (c0_a : Addr) (c1_a : Addr) (c2_k : ClassId) (gx0 : Value) (c3_a : Addr) (gx2 : Value) (gx3 : Value) {h0 : Heap} {n0 : Nat} (X0 : Stand p l e room_1 s m #[(.int p0), (.int p1), (.long p2)] below meth c T0 locs 6 9) (hx : p.tables.exec = Jvm.exec) (hZ : Z.Warmed39 s.vm) (hw : ∀ d ∈ tables_1, d.before a0 Z = true) (hby : c.code = code) (hml : c.maxLocals = 15) (hown : s.vm.findClass "hexwright/engine/SealedBidsHasBidPinLaw" = some m.cls) (e0 : T0.heap = h0) (N0 : Fr n0 locs) (Z0 : n0 ≤ h0.size) (f1 : F_0 Z h0 c0_a (.ref c1_a)) (f2 : Arv Z h0 c1_a c2_k (.object "java/lang/Long") (4 : Int32) [gx0, (.ref c3_a), gx2, gx3] .null) (f3 : E_1 Z h0 c0_a) :
    ∃ (T : State) (L : List Loc), Stand p l e room_1 s m #[(.int p0), (.int p1), (.long p2)] below meth c T L 6 9 ∧ T.heap = h0 ∧ Fr n0 L ∧ (∀ target, Steps p.tables e below (T.setTop (mkF m 208 #[.val (.int p0), .val (.int p1), .val (.long p2), .second, .val (.int 4), .val (.int gq5), .val (.int 1), .val (.int gq7), .val (.int gq8), .val (.long jam), .second, .val (.long gq11), .second, .val (.ref c0_a), .val (.int 1)] [])) target → Steps p.tables e below (T0.setTop (mkF m 179 #[.val (.int p0), .val (.int p1), .val (.long p2), .second, .val (.int 4), .val (.int gq5), .val (.int 1), .val (.int gq7), .val (.int gq8), .val (.long jam), .second, .val (.long gq11), .second, .val (.ref c0_a), .val (.int 1)] [])) target) := by
  -- pc 193: hexwright/engine/SealedBids.hasBid
  obtain ⟨cq1, kq1, q1a, q1b, q1c⟩ := isOf hZ e0 f3
  obtain ⟨_, _, ⟨T1, L1, k1, n1⟩, -, X1, ⟨Lc1, hQ1, l1, y1, z1⟩, st1⟩ := X0.virtualBack hx (y := M_1) (z := M_1) hown (mvT hZ (tw_28 hw)) (mvT hZ (tw_29 hw)) (notFace_of_selects (args := #[]) (mvT hZ (tw_31 hw))) (mvT hZ (tw_31 hw)) (mvT hZ (tw_30 hw)) (by decide) (backOf (W := 0) (rm5_263 l Z a0 hw [] c0_a c1_a c2_k gx0 c3_a gx2 gx3 h0 n0 Z0 f1 f2) hZ (tw_32 hw) (tw_3 hw) (by decide) (by decide)) q1a q1c (g := (mkF m 193 #[.val (.int p0), .val (.int p1), .val (.long p2), .second, .val (.int 4), .val (.int gq5), .val (.int 1), .val (.int gq7), .val (.int gq8), .val (.long jam), .second, .val (.long gq11), .second, .val (.ref c0_a), .val (.int 1)] [(.int 2), (.ref c0_a)])) rfl (by rw [hml]; rfl) (Steps.refl _) (argsL := [(.int 2)]) (rest := []) (lenOf pd_1 rfl) rfl (by show 2 * 0 + _ ≤ _; exact Nat.le_of_eq rfl) (hb hby at_193) (fun _ _ => ⟨rfl, e0, (by decide : 6 + 0 ≤ _), (by decide : 9 + 0 ≤ _)⟩)
  dsimp only [Pt.U, Pt.locs, Pt.cells, Pt.slots] at X1 l1 y1 z1 st1 hQ1
  subst l1 y1 z1
  obtain ⟨rfl, Nq1, e1⟩ := hQ1
  have N1 := Fr.app N0 Nq1
  refine ⟨T1, _, X1, e1, N1, fun target kt => ?_⟩
  show Steps p.tables e below (T0.setTop (mkF m 179 #[.val (.int p0), .val (.int p1), .val (.long p2), .second, .val (.int 4), .val (.int gq5), .val (.int 1), .val (.int gq7), .val (.int gq8), .val (.long jam), .second, .val (.long gq11), .second, .val (.ref c0_a), .val (.int 1)] [])) _
  refine XS.iload X0.here hx rfl (hb hby at_179) rfl ?_
  refine XS.iconst X0.here hx rfl (hb hby at_181) ?_
  refine XS.icmpNo X0.here hx rfl (hb hby at_182) rfl (by decide) ?_
  refine XS.iload X0.here hx rfl (hb hby at_185) rfl ?_
  refine XS.ifNo X0.here hx rfl (hb hby at_187) rfl (by decide) ?_
  show Steps p.tables e below (T0.setTop (mkF m 190 #[.val (.int p0), .val (.int p1), .val (.long p2), .second, .val (.int 4), .val (.int gq5), .val (.int 1), .val (.int gq7), .val (.int gq8), .val (.long jam), .second, .val (.long gq11), .second, .val (.ref c0_a), .val (.int 1)] [])) _
  refine XS.aload X0.here hx rfl (hb hby at_190) rfl rfl ?_
  refine XS.iconst X0.here hx rfl (hb hby at_192) ?_
  show Steps p.tables e below (T0.setTop (mkF m 193 #[.val (.int p0), .val (.int p1), .val (.long p2), .second, .val (.int 4), .val (.int gq5), .val (.int 1), .val (.int gq7), .val (.int gq8), .val (.long jam), .second, .val (.long gq11), .second, .val (.ref c0_a), .val (.int 1)] [(.int 2), (.ref c0_a)])) _
  refine st1.trans ?_
  refine XS.iload X1.here hx rfl (hb hby at_196) rfl ?_
  refine XS.icmpNo X1.here hx rfl (hb hby at_198) rfl (by decide) ?_
  refine XS.iconst X1.here hx rfl (hb hby at_201) ?_
  refine XS.goto X1.here hx rfl (pc0 := 202) (pc' := 206) rfl (hb hby at_202) (by decide) (by decide) ?_
  show Steps p.tables e below (T1.setTop (mkF m 206 #[.val (.int p0), .val (.int p1), .val (.long p2), .second, .val (.int 4), .val (.int gq5), .val (.int 1), .val (.int gq7), .val (.int gq8), .val (.long jam), .second, .val (.long gq11), .second, .val (.ref c0_a), .val (.int 1)] [(.int 1)])) _
  refine XS.istore X1.here hx rfl (hb hby at_206) rfl (l' := #[.val (.int p0), .val (.int p1), .val (.long p2), .second, .val (.int 4), .val (.int gq5), .val (.int 1), .val (.int gq7), .val (.int gq8), .val (.long jam), .second, .val (.long gq11), .second, .val (.ref c0_a), .val (.int 1)]) rfl ?_
  show Steps p.tables e below (T1.setTop (mkF m 208 #[.val (.int p0), .val (.int p1), .val (.long p2), .second, .val (.int 4), .val (.int gq5), .val (.int 1), .val (.int gq7), .val (.int gq8), .val (.long jam), .second, .val (.long gq11), .second, .val (.ref c0_a), .val (.int 1)] [])) _
  exact kt
set_option maxRecDepth 65536 in
set_option maxHeartbeats 40000000 in
theorem rm0_265 (l : Launch) (Z : State) (a0 : Array Value) (hw : ∀ d ∈ tables_1, d.before a0 Z = true) (ws : List Jvm.Cond) (p0 : Int32) (p1 : Int32) (p2 : Int64) (jam : Int64) (a_cache : Addr) (h0 : Heap) (n0 : Nat) (Z0 : n0 ≤ h0.size) (f1 : (p0 &&& (3 : Int32)) = (3 : Int32)) (f2 : (p1 &&& (1 : Int32)) = (0 : Int32)) (f3 : ¬ ((p1 &&& (2 : Int32)) = (0 : Int32))) (f4 : (p1 &&& (4 : Int32)) = (0 : Int32)) (f5 : (p1 &&& (8 : Int32)) = (0 : Int32)) (f6 : (p2 &&& (9223372036854775807 : Int64)) = jam) (f7 : ¬ ((lcmpW jam (0 : Int64)) < (0 : Int32))) (f8 : ¬ ((0 : Int32) < (lcmpW jam (9223372036854775807 : Int64)))) (f9 : ¬ ((lcmpW jam (-128 : Int64)) < (0 : Int32))) (f10 : S_0 Z h0 (.ref a_cache)) (f11 : OwnAll Z h0 a_cache "java/lang/Long") :
    MetFree l x (head1 (Jvm.Cond.code x code maxLocals ret :: ws) room_1) (fun a U => a = #[(.int p0), (.int p1), (.long p2)] ∧ Z.Warmed39 U.vm ∧ U.heap = h0) (fun _ _ _ _ _ => True) (fun _ U o U' => ∃ v L, o = .returned v ∧ QT n0 v U'.heap L ∧ FrameEnd U o U' L room_1.cells room_1.slots) := by
  refine MetFree.of_bodySF (plainFor_of_name pn_hexwright_engine_SealedBidsHasBidPinLaw) hisR ?_
  intro p e s m args below meth c s₁ Bd hml0 hP hK
  obtain ⟨rfl, hZ, hh⟩ := hP
  have hx := Bd.exec
  have hby := Bd.bytes
  have hml : c.maxLocals = 15 := hml0
  have hown : s.vm.findClass "hexwright/engine/SealedBidsHasBidPinLaw" = some m.cls := findClass_of_methodNamed Bd.named
  have hnm := (name_of_methodNamed Bd.named Bd.method).1
  have X0 : Stand p l e room_1 s m #[(.int p0), (.int p1), (.long p2)] below meth c s₁ [] 0 0 := Stand.of_body Bd
  have e0 : s₁.heap = h0 := by rw [← hh, Bd.state]; rfl
  have N0 := Fr.nil n0
  obtain ⟨T1, L1, X1, e1, N1, st1⟩ := sg7_1 p0 p1 p2 (4 : Int32) X0 hx hZ hw hby hml hown e0 N0 Z0 f2
  obtain ⟨T2, L2, X2, e2, N2, st2⟩ := sg20_253 p0 p1 p2 (0 : Int32) X1 hx hZ hw hby hml hown e1 N1 Z0 f3
  obtain ⟨T3, L3, X3, e3, N3, st3⟩ := sg39_195 p0 p1 p2 (0 : Int32) (1 : Int32) X2 hx hZ hw hby hml hown e2 N2 Z0 f4
  obtain ⟨T4, L4, X4, e4, N4, st4⟩ := sg58_196 p0 p1 p2 (0 : Int32) (1 : Int32) (0 : Int32) X3 hx hZ hw hby hml hown e3 N3 Z0 f5
  obtain ⟨T5, L5, X5, e5, N5, st5⟩ := sg78_5 p0 p1 p2 (4 : Int32) (0 : Int32) (1 : Int32) (0 : Int32) (0 : Int32) jam X4 hx hZ hw hby hml hown e4 N4 Z0 f6
  obtain ⟨T6, h6, L6, b254, b255, kc256, X6, e6, N6, K6, le_b254, le_b255, o6_0, o6_1, o6_2, o6_3, o6_4, st6⟩ := sg90_204 p0 p1 p2 (0 : Int32) (1 : Int32) (0 : Int32) (0 : Int32) jam (9223372036854775807 : Int64) X5 hx hZ hw hby hml hown e5 N5 Z0 
  have sz_b254 : h0.size ≤ b254 := Nat.le_trans (Nat.le_refl _) le_b254
  have g_b254 : n0 ≤ b254 := Nat.le_trans Z0 sz_b254
  have sz_b255 : h0.size ≤ b255 := Nat.le_trans (Nat.le_refl _) le_b255
  have g_b255 : n0 ≤ b255 := Nat.le_trans Z0 sz_b255
  have KK6 : Keep h0 h6 [] := (Keep.refl h0 []).trans K6 (fun x hx => nomatch hx)
  obtain ⟨T7, L7, X7, e7, N7, st7⟩ := sg101_208 p0 p1 p2 (4 : Int32) (1 : Int32) (0 : Int32) (0 : Int32) jam b254 X6 hx hZ hw hby hml hown e6 N6 (Nat.le_trans Z0 KK6.1) 
  have u9 : S_0 Z h6 (.ref a_cache) := own_sta_keep f10 K6 (fun _ q => nomatch q)
  have u10 : OwnAll Z h6 a_cache "java/lang/Long" := own_all_keep f11 K6 List.not_mem_nil
  obtain ⟨T8, h8, L8, bx262, X8, e8, N8, K8, o8_0, st8⟩ := sg116_261 p0 p1 p2 (4 : Int32) (0 : Int32) (0 : Int32) (0 : Int32) jam b254 b255 kc256 .null .null .null a_cache X7 hx hZ hw hby hml hown e7 N7 (Nat.le_trans Z0 KK6.1) o6_1 o6_2 f7 f8 f9 u9 u10 g_b255 o6_3 o6_0
  have KK8 : Keep h0 h8 [] := KK6.trans K8 (fun x hx => (List.mem_cons.mp hx).elim (fun q => q ▸ (Or.inr sz_b255)) (fun hx => nomatch hx))
  obtain ⟨T11, L11, X11, e11, N11, st11⟩ := sg131_210 p0 p1 p2 (4 : Int32) (0 : Int32) (1 : Int32) (0 : Int32) jam b254 X8 hx hZ hw hby hml hown e8 N8 (Nat.le_trans Z0 KK8.1) 
  obtain ⟨T12, L12, X12, e12, N12, st12⟩ := sg146_211 p0 p1 p2 (4 : Int32) (0 : Int32) (1 : Int32) (0 : Int32) jam b254 X11 hx hZ hw hby hml hown e11 N11 (Nat.le_trans Z0 KK8.1) 
  have u14 : F_0 Z h8 b254 (.ref b255) := Fld.keep o6_1 K8 (own_notin o6_4 List.not_mem_nil)
  have u15 : E_1 Z h8 b254 := Exa.keep o6_0 K8
  obtain ⟨T13, L13, X13, e13, N13, st13⟩ := sg161_213 p0 p1 p2 (4 : Int32) (1 : Int32) (0 : Int32) (0 : Int32) jam (9223372036854775807 : Int64) b254 b255 kc256 (.ref bx262) .null .null X12 hx hZ hw hby hml hown e12 N12 (Nat.le_trans Z0 KK8.1) u14 o8_0 u15
  obtain ⟨T16, L16, X16, e16, N16, st16⟩ := sg179_264 p0 p1 p2 (0 : Int32) (0 : Int32) (0 : Int32) jam (9223372036854775807 : Int64) b254 b255 kc256 .null bx262 .null .null X13 hx hZ hw hby hml hown e13 N13 (Nat.le_trans Z0 KK8.1) u14 o8_0 u15
  obtain ⟨T17, L17, X17, e17, N17, st17⟩ := sg208_217 p0 p1 p2 (0 : Int32) (1 : Int32) (0 : Int32) jam (9223372036854775807 : Int64) b254 b255 kc256 .null (.ref bx262) .null X16 hx hZ hw hby hml hown e16 N16 (Nat.le_trans Z0 KK8.1) u14 o8_0 u15
  obtain ⟨T18, L18, X18, e18, N18, st18⟩ := sg237_219 p0 p1 p2 (0 : Int32) (1 : Int32) (0 : Int32) jam (9223372036854775807 : Int64) b254 b255 kc256 .null (.ref bx262) .null X17 hx hZ hw hby hml hown e17 N17 (Nat.le_trans Z0 KK8.1) u14 o8_0 u15
  obtain ⟨fs, hr, hrun, hended, hW, hsame⟩ := X18.leave (v := (some (.int 1))) (fun h => by rw [Bd.returns] at h; cases h)
  refine ⟨_, _, castTop (ef0_IIJ m p0 p1 p2) ?_, hrun, hended, _, _, rfl, ?_, ⟨_, rfl⟩, hW, hsame.mono (by decide) (by decide)⟩
  · show Steps p.tables e below (s₁.setTop (mkF m 0 #[.val (.int p0), .val (.int p1), .val (.long p2), .second, .unset, .unset, .unset, .unset, .unset, .unset, .unset, .unset, .unset, .unset, .unset] [])) _
    refine XS.iloadN X0.here hx rfl (hb hby at_0) rfl ?_
    refine XS.iconst X0.here hx rfl (hb hby at_1) ?_
    show Steps p.tables e below (s₁.setTop (mkF m 2 #[.val (.int p0), .val (.int p1), .val (.long p2), .second, .unset, .unset, .unset, .unset, .unset, .unset, .unset, .unset, .unset, .unset, .unset] [(.int 3), (.int p0)])) _
    refine XS.iand X0.here hx rfl (hb hby at_2) rfl ?_
    show Steps p.tables e below (s₁.setTop (mkF m 3 #[.val (.int p0), .val (.int p1), .val (.long p2), .second, .unset, .unset, .unset, .unset, .unset, .unset, .unset, .unset, .unset, .unset, .unset] [(.int (p0 &&& (3 : Int32)))])) _
    rw [f1]
    refine XS.iconst X0.here hx rfl (hb hby at_3) ?_
    show Steps p.tables e below (s₁.setTop (mkF m 4 #[.val (.int p0), .val (.int p1), .val (.long p2), .second, .unset, .unset, .unset, .unset, .unset, .unset, .unset, .unset, .unset, .unset, .unset] [(.int 1), (.int 3)])) _
    refine XS.iadd X0.here hx rfl (hb hby at_4) rfl ?_
    show Steps p.tables e below (s₁.setTop (mkF m 5 #[.val (.int p0), .val (.int p1), .val (.long p2), .second, .unset, .unset, .unset, .unset, .unset, .unset, .unset, .unset, .unset, .unset, .unset] [(.int ((3 : Int32) + (1 : Int32)))])) _
    rw [show ((3 : Int32) + (1 : Int32)) = (4 : Int32) from by decide]
    refine XS.istore X0.here hx rfl (hb hby at_5) rfl (l' := #[.val (.int p0), .val (.int p1), .val (.long p2), .second, .val (.int 4), .unset, .unset, .unset, .unset, .unset, .unset, .unset, .unset, .unset, .unset]) rfl ?_
    show Steps p.tables e below (s₁.setTop (mkF m 7 #[.val (.int p0), .val (.int p1), .val (.long p2), .second, .val (.int 4), .unset, .unset, .unset, .unset, .unset, .unset, .unset, .unset, .unset, .unset] [])) _
    refine st1 _ ?_
    show Steps p.tables e below (T1.setTop (mkF m 20 #[.val (.int p0), .val (.int p1), .val (.long p2), .second, .val (.int 4), .val (.int 0), .unset, .unset, .unset, .unset, .unset, .unset, .unset, .unset, .unset] [])) _
    refine st2 _ ?_
    show Steps p.tables e below (T2.setTop (mkF m 39 #[.val (.int p0), .val (.int p1), .val (.long p2), .second, .val (.int 4), .val (.int 0), .val (.int 1), .unset, .unset, .unset, .unset, .unset, .unset, .unset, .unset] [])) _
    refine st3 _ ?_
    show Steps p.tables e below (T3.setTop (mkF m 58 #[.val (.int p0), .val (.int p1), .val (.long p2), .second, .val (.int 4), .val (.int 0), .val (.int 1), .val (.int 0), .unset, .unset, .unset, .unset, .unset, .unset, .unset] [])) _
    refine st4 _ ?_
    show Steps p.tables e below (T4.setTop (mkF m 78 #[.val (.int p0), .val (.int p1), .val (.long p2), .second, .val (.int 4), .val (.int 0), .val (.int 1), .val (.int 0), .val (.int 0), .unset, .unset, .unset, .unset, .unset, .unset] [])) _
    refine st5 _ ?_
    show Steps p.tables e below (T5.setTop (mkF m 90 #[.val (.int p0), .val (.int p1), .val (.long p2), .second, .val (.int 4), .val (.int 0), .val (.int 1), .val (.int 0), .val (.int 0), .val (.long jam), .second, .val (.long 9223372036854775807), .second, .unset, .unset] [])) _
    refine st6 _ ?_
    show Steps p.tables e below (T6.setTop (mkF m 101 #[.val (.int p0), .val (.int p1), .val (.long p2), .second, .val (.int 4), .val (.int 0), .val (.int 1), .val (.int 0), .val (.int 0), .val (.long jam), .second, .val (.long 9223372036854775807), .second, .val (.ref b254), .unset] [])) _
    refine st7 _ ?_
    show Steps p.tables e below (T7.setTop (mkF m 116 #[.val (.int p0), .val (.int p1), .val (.long p2), .second, .val (.int 4), .val (.int 0), .val (.int 1), .val (.int 0), .val (.int 0), .val (.long jam), .second, .val (.long 9223372036854775807), .second, .val (.ref b254), .unset] [])) _
    refine st8 _ ?_
    show Steps p.tables e below (T8.setTop (mkF m 131 #[.val (.int p0), .val (.int p1), .val (.long p2), .second, .val (.int 4), .val (.int 0), .val (.int 1), .val (.int 0), .val (.int 0), .val (.long jam), .second, .val (.long 9223372036854775807), .second, .val (.ref b254), .unset] [])) _
    refine st11 _ ?_
    show Steps p.tables e below (T11.setTop (mkF m 146 #[.val (.int p0), .val (.int p1), .val (.long p2), .second, .val (.int 4), .val (.int 0), .val (.int 1), .val (.int 0), .val (.int 0), .val (.long jam), .second, .val (.long 9223372036854775807), .second, .val (.ref b254), .unset] [])) _
    refine st12 _ ?_
    show Steps p.tables e below (T12.setTop (mkF m 161 #[.val (.int p0), .val (.int p1), .val (.long p2), .second, .val (.int 4), .val (.int 0), .val (.int 1), .val (.int 0), .val (.int 0), .val (.long jam), .second, .val (.long 9223372036854775807), .second, .val (.ref b254), .unset] [])) _
    refine st13 _ ?_
    show Steps p.tables e below (T13.setTop (mkF m 179 #[.val (.int p0), .val (.int p1), .val (.long p2), .second, .val (.int 4), .val (.int 0), .val (.int 1), .val (.int 0), .val (.int 0), .val (.long jam), .second, .val (.long 9223372036854775807), .second, .val (.ref b254), .val (.int 1)] [])) _
    refine st16 _ ?_
    show Steps p.tables e below (T16.setTop (mkF m 208 #[.val (.int p0), .val (.int p1), .val (.long p2), .second, .val (.int 4), .val (.int 0), .val (.int 1), .val (.int 0), .val (.int 0), .val (.long jam), .second, .val (.long 9223372036854775807), .second, .val (.ref b254), .val (.int 1)] [])) _
    refine st17 _ ?_
    show Steps p.tables e below (T17.setTop (mkF m 237 #[.val (.int p0), .val (.int p1), .val (.long p2), .second, .val (.int 4), .val (.int 0), .val (.int 1), .val (.int 0), .val (.int 0), .val (.long jam), .second, .val (.long 9223372036854775807), .second, .val (.ref b254), .val (.int 1)] [])) _
    refine st18 _ ?_
    refine XS.iload X18.here hx rfl (hb hby at_266) rfl ?_
    show Steps p.tables e below (T18.setTop (mkF m 268 #[.val (.int p0), .val (.int p1), .val (.long p2), .second, .val (.int 4), .val (.int 0), .val (.int 1), .val (.int 0), .val (.int 0), .val (.long jam), .second, .val (.long 9223372036854775807), .second, .val (.ref b254), .val (.int 1)] [(.int 1)])) _
    exact retN X18 hx (t := .boolean) Bd.returns (by simp) (hb hby at_268) hr
  · show QT n0 _ T18.heap _
    rw [e18]
    exact ⟨rfl, N18⟩
set_option maxRecDepth 65536 in
set_option maxHeartbeats 40000000 in
theorem rm0_271 (l : Launch) (Z : State) (a0 : Array Value) (hw : ∀ d ∈ tables_1, d.before a0 Z = true) (ws : List Jvm.Cond) (p0 : Int32) (p1 : Int32) (p2 : Int64) (jam : Int64) (a_cache : Addr) (h0 : Heap) (n0 : Nat) (Z0 : n0 ≤ h0.size) (f1 : (p0 &&& (3 : Int32)) = (3 : Int32)) (f2 : (p1 &&& (1 : Int32)) = (0 : Int32)) (f3 : ¬ ((p1 &&& (2 : Int32)) = (0 : Int32))) (f4 : (p1 &&& (4 : Int32)) = (0 : Int32)) (f5 : ¬ ((p1 &&& (8 : Int32)) = (0 : Int32))) (f6 : (p2 &&& (9223372036854775807 : Int64)) = jam) (f7 : ¬ ((lcmpW jam (0 : Int64)) < (0 : Int32))) (f8 : ¬ ((0 : Int32) < (lcmpW jam (9223372036854775807 : Int64)))) (f9 : ¬ ((lcmpW jam (-128 : Int64)) < (0 : Int32))) (f10 : S_0 Z h0 (.ref a_cache)) (f11 : OwnAll Z h0 a_cache "java/lang/Long") (f12 : E_0 Z h0 a_cache) :
    MetFree l x (head1 (Jvm.Cond.code x code maxLocals ret :: ws) room_1) (fun a U => a = #[(.int p0), (.int p1), (.long p2)] ∧ Z.Warmed39 U.vm ∧ U.heap = h0) (fun _ _ _ _ _ => True) (fun _ U o U' => ∃ v L, o = .returned v ∧ QT n0 v U'.heap L ∧ FrameEnd U o U' L room_1.cells room_1.slots) := by
  refine MetFree.of_bodySF (plainFor_of_name pn_hexwright_engine_SealedBidsHasBidPinLaw) hisR ?_
  intro p e s m args below meth c s₁ Bd hml0 hP hK
  obtain ⟨rfl, hZ, hh⟩ := hP
  have hx := Bd.exec
  have hby := Bd.bytes
  have hml : c.maxLocals = 15 := hml0
  have hown : s.vm.findClass "hexwright/engine/SealedBidsHasBidPinLaw" = some m.cls := findClass_of_methodNamed Bd.named
  have hnm := (name_of_methodNamed Bd.named Bd.method).1
  have X0 : Stand p l e room_1 s m #[(.int p0), (.int p1), (.long p2)] below meth c s₁ [] 0 0 := Stand.of_body Bd
  have e0 : s₁.heap = h0 := by rw [← hh, Bd.state]; rfl
  have N0 := Fr.nil n0
  obtain ⟨T1, L1, X1, e1, N1, st1⟩ := sg7_1 p0 p1 p2 (4 : Int32) X0 hx hZ hw hby hml hown e0 N0 Z0 f2
  obtain ⟨T2, L2, X2, e2, N2, st2⟩ := sg20_253 p0 p1 p2 (0 : Int32) X1 hx hZ hw hby hml hown e1 N1 Z0 f3
  obtain ⟨T3, L3, X3, e3, N3, st3⟩ := sg39_195 p0 p1 p2 (0 : Int32) (1 : Int32) X2 hx hZ hw hby hml hown e2 N2 Z0 f4
  obtain ⟨T4, L4, X4, e4, N4, st4⟩ := sg58_221 p0 p1 p2 (0 : Int32) (1 : Int32) (0 : Int32) X3 hx hZ hw hby hml hown e3 N3 Z0 f5
  obtain ⟨T5, L5, X5, e5, N5, st5⟩ := sg78_5 p0 p1 p2 (4 : Int32) (0 : Int32) (1 : Int32) (0 : Int32) (1 : Int32) jam X4 hx hZ hw hby hml hown e4 N4 Z0 f6
  obtain ⟨T6, h6, L6, b266, b267, kc268, X6, e6, N6, K6, le_b266, le_b267, o6_0, o6_1, o6_2, o6_3, o6_4, st6⟩ := sg90_204 p0 p1 p2 (0 : Int32) (1 : Int32) (0 : Int32) (1 : Int32) jam (9223372036854775807 : Int64) X5 hx hZ hw hby hml hown e5 N5 Z0 
  have sz_b266 : h0.size ≤ b266 := Nat.le_trans (Nat.le_refl _) le_b266
  have g_b266 : n0 ≤ b266 := Nat.le_trans Z0 sz_b266
  have sz_b267 : h0.size ≤ b267 := Nat.le_trans (Nat.le_refl _) le_b267
  have g_b267 : n0 ≤ b267 := Nat.le_trans Z0 sz_b267
  have KK6 : Keep h0 h6 [] := (Keep.refl h0 []).trans K6 (fun x hx => nomatch hx)
  obtain ⟨T7, L7, X7, e7, N7, st7⟩ := sg101_208 p0 p1 p2 (4 : Int32) (1 : Int32) (0 : Int32) (1 : Int32) jam b266 X6 hx hZ hw hby hml hown e6 N6 (Nat.le_trans Z0 KK6.1) 
  have u9 : S_0 Z h6 (.ref a_cache) := own_sta_keep f10 K6 (fun _ q => nomatch q)
  have u10 : OwnAll Z h6 a_cache "java/lang/Long" := own_all_keep f11 K6 List.not_mem_nil
  obtain ⟨T8, h8, L8, bx269, X8, e8, N8, K8, o8_0, st8⟩ := sg116_261 p0 p1 p2 (4 : Int32) (0 : Int32) (0 : Int32) (1 : Int32) jam b266 b267 kc268 .null .null .null a_cache X7 hx hZ hw hby hml hown e7 N7 (Nat.le_trans Z0 KK6.1) o6_1 o6_2 f7 f8 f9 u9 u10 g_b267 o6_3 o6_0
  have KK8 : Keep h0 h8 [] := KK6.trans K8 (fun x hx => (List.mem_cons.mp hx).elim (fun q => q ▸ (Or.inr sz_b267)) (fun hx => nomatch hx))
  obtain ⟨T11, L11, X11, e11, N11, st11⟩ := sg131_210 p0 p1 p2 (4 : Int32) (0 : Int32) (1 : Int32) (1 : Int32) jam b266 X8 hx hZ hw hby hml hown e8 N8 (Nat.le_trans Z0 KK8.1) 
  have u13 : F_0 Z h8 b266 (.ref b267) := Fld.keep o6_1 K8 (own_notin o6_4 List.not_mem_nil)
  have u14 : S_0 Z h8 (.ref a_cache) := own_sta_keep u9 K8 (own_ns (Arv.nostat o6_2) (fun _ q => nomatch q))
  have ne15 : a_cache ≠ b267 := Nat.ne_of_lt (Nat.lt_of_lt_of_le (Exa.lt f12) le_b267)
  have u16 : OwnAll Z h8 a_cache "java/lang/Long" := own_all_keep u10 K8 (own_notin ne15 List.not_mem_nil)
  have u17 : E_1 Z h8 b266 := Exa.keep o6_0 K8
  obtain ⟨T12, h12, L12, bx270, X12, e12, N12, K12, o12_0, st12⟩ := sg146_229 p0 p1 p2 (4 : Int32) (0 : Int32) (1 : Int32) (0 : Int32) jam b266 b267 kc268 .null (.ref bx269) .null a_cache X11 hx hZ hw hby hml hown e11 N11 (Nat.le_trans Z0 KK8.1) u13 o8_0 f7 f8 f9 u14 u16 g_b267 o6_3 u17
  have KK12 : Keep h0 h12 [] := KK8.trans K12 (fun x hx => (List.mem_cons.mp hx).elim (fun q => q ▸ (Or.inr sz_b267)) (fun hx => nomatch hx))
  have u19 : F_0 Z h12 b266 (.ref b267) := Fld.keep u13 K12 (own_notin o6_4 List.not_mem_nil)
  have u20 : E_1 Z h12 b266 := Exa.keep u17 K12
  obtain ⟨T18, L18, X18, e18, N18, st18⟩ := sg161_213 p0 p1 p2 (4 : Int32) (1 : Int32) (0 : Int32) (1 : Int32) jam (9223372036854775807 : Int64) b266 b267 kc268 (.ref bx269) .null (.ref bx270) X12 hx hZ hw hby hml hown e12 N12 (Nat.le_trans Z0 KK12.1) u19 o12_0 u20
  obtain ⟨T21, L21, X21, e21, N21, st21⟩ := sg179_264 p0 p1 p2 (0 : Int32) (0 : Int32) (1 : Int32) jam (9223372036854775807 : Int64) b266 b267 kc268 .null bx269 .null (.ref bx270) X18 hx hZ hw hby hml hown e18 N18 (Nat.le_trans Z0 KK12.1) u19 o12_0 u20
  obtain ⟨T22, L22, X22, e22, N22, st22⟩ := sg208_217 p0 p1 p2 (0 : Int32) (1 : Int32) (1 : Int32) jam (9223372036854775807 : Int64) b266 b267 kc268 .null (.ref bx269) (.ref bx270) X21 hx hZ hw hby hml hown e21 N21 (Nat.le_trans Z0 KK12.1) u19 o12_0 u20
  obtain ⟨T23, L23, X23, e23, N23, st23⟩ := sg237_232 p0 p1 p2 (0 : Int32) (1 : Int32) (0 : Int32) jam (9223372036854775807 : Int64) b266 b267 kc268 .null (.ref bx269) .null bx270 X22 hx hZ hw hby hml hown e22 N22 (Nat.le_trans Z0 KK12.1) u19 o12_0 u20
  obtain ⟨fs, hr, hrun, hended, hW, hsame⟩ := X23.leave (v := (some (.int 1))) (fun h => by rw [Bd.returns] at h; cases h)
  refine ⟨_, _, castTop (ef0_IIJ m p0 p1 p2) ?_, hrun, hended, _, _, rfl, ?_, ⟨_, rfl⟩, hW, hsame.mono (by decide) (by decide)⟩
  · show Steps p.tables e below (s₁.setTop (mkF m 0 #[.val (.int p0), .val (.int p1), .val (.long p2), .second, .unset, .unset, .unset, .unset, .unset, .unset, .unset, .unset, .unset, .unset, .unset] [])) _
    refine XS.iloadN X0.here hx rfl (hb hby at_0) rfl ?_
    refine XS.iconst X0.here hx rfl (hb hby at_1) ?_
    show Steps p.tables e below (s₁.setTop (mkF m 2 #[.val (.int p0), .val (.int p1), .val (.long p2), .second, .unset, .unset, .unset, .unset, .unset, .unset, .unset, .unset, .unset, .unset, .unset] [(.int 3), (.int p0)])) _
    refine XS.iand X0.here hx rfl (hb hby at_2) rfl ?_
    show Steps p.tables e below (s₁.setTop (mkF m 3 #[.val (.int p0), .val (.int p1), .val (.long p2), .second, .unset, .unset, .unset, .unset, .unset, .unset, .unset, .unset, .unset, .unset, .unset] [(.int (p0 &&& (3 : Int32)))])) _
    rw [f1]
    refine XS.iconst X0.here hx rfl (hb hby at_3) ?_
    show Steps p.tables e below (s₁.setTop (mkF m 4 #[.val (.int p0), .val (.int p1), .val (.long p2), .second, .unset, .unset, .unset, .unset, .unset, .unset, .unset, .unset, .unset, .unset, .unset] [(.int 1), (.int 3)])) _
    refine XS.iadd X0.here hx rfl (hb hby at_4) rfl ?_
    show Steps p.tables e below (s₁.setTop (mkF m 5 #[.val (.int p0), .val (.int p1), .val (.long p2), .second, .unset, .unset, .unset, .unset, .unset, .unset, .unset, .unset, .unset, .unset, .unset] [(.int ((3 : Int32) + (1 : Int32)))])) _
    rw [show ((3 : Int32) + (1 : Int32)) = (4 : Int32) from by decide]
    refine XS.istore X0.here hx rfl (hb hby at_5) rfl (l' := #[.val (.int p0), .val (.int p1), .val (.long p2), .second, .val (.int 4), .unset, .unset, .unset, .unset, .unset, .unset, .unset, .unset, .unset, .unset]) rfl ?_
    show Steps p.tables e below (s₁.setTop (mkF m 7 #[.val (.int p0), .val (.int p1), .val (.long p2), .second, .val (.int 4), .unset, .unset, .unset, .unset, .unset, .unset, .unset, .unset, .unset, .unset] [])) _
    refine st1 _ ?_
    show Steps p.tables e below (T1.setTop (mkF m 20 #[.val (.int p0), .val (.int p1), .val (.long p2), .second, .val (.int 4), .val (.int 0), .unset, .unset, .unset, .unset, .unset, .unset, .unset, .unset, .unset] [])) _
    refine st2 _ ?_
    show Steps p.tables e below (T2.setTop (mkF m 39 #[.val (.int p0), .val (.int p1), .val (.long p2), .second, .val (.int 4), .val (.int 0), .val (.int 1), .unset, .unset, .unset, .unset, .unset, .unset, .unset, .unset] [])) _
    refine st3 _ ?_
    show Steps p.tables e below (T3.setTop (mkF m 58 #[.val (.int p0), .val (.int p1), .val (.long p2), .second, .val (.int 4), .val (.int 0), .val (.int 1), .val (.int 0), .unset, .unset, .unset, .unset, .unset, .unset, .unset] [])) _
    refine st4 _ ?_
    show Steps p.tables e below (T4.setTop (mkF m 78 #[.val (.int p0), .val (.int p1), .val (.long p2), .second, .val (.int 4), .val (.int 0), .val (.int 1), .val (.int 0), .val (.int 1), .unset, .unset, .unset, .unset, .unset, .unset] [])) _
    refine st5 _ ?_
    show Steps p.tables e below (T5.setTop (mkF m 90 #[.val (.int p0), .val (.int p1), .val (.long p2), .second, .val (.int 4), .val (.int 0), .val (.int 1), .val (.int 0), .val (.int 1), .val (.long jam), .second, .val (.long 9223372036854775807), .second, .unset, .unset] [])) _
    refine st6 _ ?_
    show Steps p.tables e below (T6.setTop (mkF m 101 #[.val (.int p0), .val (.int p1), .val (.long p2), .second, .val (.int 4), .val (.int 0), .val (.int 1), .val (.int 0), .val (.int 1), .val (.long jam), .second, .val (.long 9223372036854775807), .second, .val (.ref b266), .unset] [])) _
    refine st7 _ ?_
    show Steps p.tables e below (T7.setTop (mkF m 116 #[.val (.int p0), .val (.int p1), .val (.long p2), .second, .val (.int 4), .val (.int 0), .val (.int 1), .val (.int 0), .val (.int 1), .val (.long jam), .second, .val (.long 9223372036854775807), .second, .val (.ref b266), .unset] [])) _
    refine st8 _ ?_
    show Steps p.tables e below (T8.setTop (mkF m 131 #[.val (.int p0), .val (.int p1), .val (.long p2), .second, .val (.int 4), .val (.int 0), .val (.int 1), .val (.int 0), .val (.int 1), .val (.long jam), .second, .val (.long 9223372036854775807), .second, .val (.ref b266), .unset] [])) _
    refine st11 _ ?_
    show Steps p.tables e below (T11.setTop (mkF m 146 #[.val (.int p0), .val (.int p1), .val (.long p2), .second, .val (.int 4), .val (.int 0), .val (.int 1), .val (.int 0), .val (.int 1), .val (.long jam), .second, .val (.long 9223372036854775807), .second, .val (.ref b266), .unset] [])) _
    refine st12 _ ?_
    show Steps p.tables e below (T12.setTop (mkF m 161 #[.val (.int p0), .val (.int p1), .val (.long p2), .second, .val (.int 4), .val (.int 0), .val (.int 1), .val (.int 0), .val (.int 1), .val (.long jam), .second, .val (.long 9223372036854775807), .second, .val (.ref b266), .unset] [])) _
    refine st18 _ ?_
    show Steps p.tables e below (T18.setTop (mkF m 179 #[.val (.int p0), .val (.int p1), .val (.long p2), .second, .val (.int 4), .val (.int 0), .val (.int 1), .val (.int 0), .val (.int 1), .val (.long jam), .second, .val (.long 9223372036854775807), .second, .val (.ref b266), .val (.int 1)] [])) _
    refine st21 _ ?_
    show Steps p.tables e below (T21.setTop (mkF m 208 #[.val (.int p0), .val (.int p1), .val (.long p2), .second, .val (.int 4), .val (.int 0), .val (.int 1), .val (.int 0), .val (.int 1), .val (.long jam), .second, .val (.long 9223372036854775807), .second, .val (.ref b266), .val (.int 1)] [])) _
    refine st22 _ ?_
    show Steps p.tables e below (T22.setTop (mkF m 237 #[.val (.int p0), .val (.int p1), .val (.long p2), .second, .val (.int 4), .val (.int 0), .val (.int 1), .val (.int 0), .val (.int 1), .val (.long jam), .second, .val (.long 9223372036854775807), .second, .val (.ref b266), .val (.int 1)] [])) _
    refine st23 _ ?_
    refine XS.iload X23.here hx rfl (hb hby at_266) rfl ?_
    show Steps p.tables e below (T23.setTop (mkF m 268 #[.val (.int p0), .val (.int p1), .val (.long p2), .second, .val (.int 4), .val (.int 0), .val (.int 1), .val (.int 0), .val (.int 1), .val (.long jam), .second, .val (.long 9223372036854775807), .second, .val (.ref b266), .val (.int 1)] [(.int 1)])) _
    exact retN X23 hx (t := .boolean) Bd.returns (by simp) (hb hby at_268) hr
  · show QT n0 _ T23.heap _
    rw [e23]
    exact ⟨rfl, N23⟩
set_option maxRecDepth 65536 in
set_option maxHeartbeats 40000000 in
theorem rm0_277 (l : Launch) (Z : State) (a0 : Array Value) (hw : ∀ d ∈ tables_1, d.before a0 Z = true) (ws : List Jvm.Cond) (p0 : Int32) (p1 : Int32) (p2 : Int64) (jam : Int64) (a_cache : Addr) (h0 : Heap) (n0 : Nat) (Z0 : n0 ≤ h0.size) (f1 : (p0 &&& (3 : Int32)) = (3 : Int32)) (f2 : (p1 &&& (1 : Int32)) = (0 : Int32)) (f3 : ¬ ((p1 &&& (2 : Int32)) = (0 : Int32))) (f4 : ¬ ((p1 &&& (4 : Int32)) = (0 : Int32))) (f5 : (p1 &&& (8 : Int32)) = (0 : Int32)) (f6 : (p2 &&& (9223372036854775807 : Int64)) = jam) (f7 : ¬ ((lcmpW jam (0 : Int64)) < (0 : Int32))) (f8 : ¬ ((0 : Int32) < (lcmpW jam (9223372036854775807 : Int64)))) (f9 : ¬ ((lcmpW jam (-128 : Int64)) < (0 : Int32))) (f10 : S_0 Z h0 (.ref a_cache)) (f11 : OwnAll Z h0 a_cache "java/lang/Long") (f12 : E_0 Z h0 a_cache) :
    MetFree l x (head1 (Jvm.Cond.code x code maxLocals ret :: ws) room_1) (fun a U => a = #[(.int p0), (.int p1), (.long p2)] ∧ Z.Warmed39 U.vm ∧ U.heap = h0) (fun _ _ _ _ _ => True) (fun _ U o U' => ∃ v L, o = .returned v ∧ QT n0 v U'.heap L ∧ FrameEnd U o U' L room_1.cells room_1.slots) := by
  refine MetFree.of_bodySF (plainFor_of_name pn_hexwright_engine_SealedBidsHasBidPinLaw) hisR ?_
  intro p e s m args below meth c s₁ Bd hml0 hP hK
  obtain ⟨rfl, hZ, hh⟩ := hP
  have hx := Bd.exec
  have hby := Bd.bytes
  have hml : c.maxLocals = 15 := hml0
  have hown : s.vm.findClass "hexwright/engine/SealedBidsHasBidPinLaw" = some m.cls := findClass_of_methodNamed Bd.named
  have hnm := (name_of_methodNamed Bd.named Bd.method).1
  have X0 : Stand p l e room_1 s m #[(.int p0), (.int p1), (.long p2)] below meth c s₁ [] 0 0 := Stand.of_body Bd
  have e0 : s₁.heap = h0 := by rw [← hh, Bd.state]; rfl
  have N0 := Fr.nil n0
  obtain ⟨T1, L1, X1, e1, N1, st1⟩ := sg7_1 p0 p1 p2 (4 : Int32) X0 hx hZ hw hby hml hown e0 N0 Z0 f2
  obtain ⟨T2, L2, X2, e2, N2, st2⟩ := sg20_253 p0 p1 p2 (0 : Int32) X1 hx hZ hw hby hml hown e1 N1 Z0 f3
  obtain ⟨T3, L3, X3, e3, N3, st3⟩ := sg39_234 p0 p1 p2 (0 : Int32) (1 : Int32) X2 hx hZ hw hby hml hown e2 N2 Z0 f4
  obtain ⟨T4, L4, X4, e4, N4, st4⟩ := sg58_196 p0 p1 p2 (0 : Int32) (1 : Int32) (1 : Int32) X3 hx hZ hw hby hml hown e3 N3 Z0 f5
  obtain ⟨T5, L5, X5, e5, N5, st5⟩ := sg78_5 p0 p1 p2 (4 : Int32) (0 : Int32) (1 : Int32) (1 : Int32) (0 : Int32) jam X4 hx hZ hw hby hml hown e4 N4 Z0 f6
  obtain ⟨T6, h6, L6, b272, b273, kc274, X6, e6, N6, K6, le_b272, le_b273, o6_0, o6_1, o6_2, o6_3, o6_4, st6⟩ := sg90_204 p0 p1 p2 (0 : Int32) (1 : Int32) (1 : Int32) (0 : Int32) jam (9223372036854775807 : Int64) X5 hx hZ hw hby hml hown e5 N5 Z0 
  have sz_b272 : h0.size ≤ b272 := Nat.le_trans (Nat.le_refl _) le_b272
  have g_b272 : n0 ≤ b272 := Nat.le_trans Z0 sz_b272
  have sz_b273 : h0.size ≤ b273 := Nat.le_trans (Nat.le_refl _) le_b273
  have g_b273 : n0 ≤ b273 := Nat.le_trans Z0 sz_b273
  have KK6 : Keep h0 h6 [] := (Keep.refl h0 []).trans K6 (fun x hx => nomatch hx)
  obtain ⟨T7, L7, X7, e7, N7, st7⟩ := sg101_208 p0 p1 p2 (4 : Int32) (1 : Int32) (1 : Int32) (0 : Int32) jam b272 X6 hx hZ hw hby hml hown e6 N6 (Nat.le_trans Z0 KK6.1) 
  have u9 : S_0 Z h6 (.ref a_cache) := own_sta_keep f10 K6 (fun _ q => nomatch q)
  have u10 : OwnAll Z h6 a_cache "java/lang/Long" := own_all_keep f11 K6 List.not_mem_nil
  obtain ⟨T8, h8, L8, bx275, X8, e8, N8, K8, o8_0, st8⟩ := sg116_261 p0 p1 p2 (4 : Int32) (0 : Int32) (1 : Int32) (0 : Int32) jam b272 b273 kc274 .null .null .null a_cache X7 hx hZ hw hby hml hown e7 N7 (Nat.le_trans Z0 KK6.1) o6_1 o6_2 f7 f8 f9 u9 u10 g_b273 o6_3 o6_0
  have KK8 : Keep h0 h8 [] := KK6.trans K8 (fun x hx => (List.mem_cons.mp hx).elim (fun q => q ▸ (Or.inr sz_b273)) (fun hx => nomatch hx))
  have u12 : F_0 Z h8 b272 (.ref b273) := Fld.keep o6_1 K8 (own_notin o6_4 List.not_mem_nil)
  have u13 : S_0 Z h8 (.ref a_cache) := own_sta_keep u9 K8 (own_ns (Arv.nostat o6_2) (fun _ q => nomatch q))
  have ne14 : a_cache ≠ b273 := Nat.ne_of_lt (Nat.lt_of_lt_of_le (Exa.lt f12) le_b273)
  have u15 : OwnAll Z h8 a_cache "java/lang/Long" := own_all_keep u10 K8 (own_notin ne14 List.not_mem_nil)
  have u16 : E_1 Z h8 b272 := Exa.keep o6_0 K8
  obtain ⟨T11, h11, L11, bx276, X11, e11, N11, K11, o11_0, st11⟩ := sg131_242 p0 p1 p2 (4 : Int32) (0 : Int32) (1 : Int32) (0 : Int32) jam b272 b273 kc274 .null (.ref bx275) .null a_cache X8 hx hZ hw hby hml hown e8 N8 (Nat.le_trans Z0 KK8.1) u12 o8_0 f7 f8 f9 u13 u15 g_b273 o6_3 u16
  have KK11 : Keep h0 h11 [] := KK8.trans K11 (fun x hx => (List.mem_cons.mp hx).elim (fun q => q ▸ (Or.inr sz_b273)) (fun hx => nomatch hx))
  obtain ⟨T17, L17, X17, e17, N17, st17⟩ := sg146_211 p0 p1 p2 (4 : Int32) (0 : Int32) (1 : Int32) (1 : Int32) jam b272 X11 hx hZ hw hby hml hown e11 N11 (Nat.le_trans Z0 KK11.1) 
  have u19 : F_0 Z h11 b272 (.ref b273) := Fld.keep u12 K11 (own_notin o6_4 List.not_mem_nil)
  have u20 : E_1 Z h11 b272 := Exa.keep u16 K11
  obtain ⟨T18, L18, X18, e18, N18, st18⟩ := sg161_213 p0 p1 p2 (4 : Int32) (1 : Int32) (1 : Int32) (0 : Int32) jam (9223372036854775807 : Int64) b272 b273 kc274 (.ref bx275) (.ref bx276) .null X17 hx hZ hw hby hml hown e17 N17 (Nat.le_trans Z0 KK11.1) u19 o11_0 u20
  obtain ⟨T21, L21, X21, e21, N21, st21⟩ := sg179_264 p0 p1 p2 (0 : Int32) (1 : Int32) (0 : Int32) jam (9223372036854775807 : Int64) b272 b273 kc274 .null bx275 (.ref bx276) .null X18 hx hZ hw hby hml hown e18 N18 (Nat.le_trans Z0 KK11.1) u19 o11_0 u20
  obtain ⟨T22, L22, X22, e22, N22, st22⟩ := sg208_245 p0 p1 p2 (0 : Int32) (1 : Int32) (0 : Int32) jam (9223372036854775807 : Int64) b272 b273 kc274 .null (.ref bx275) bx276 .null X21 hx hZ hw hby hml hown e21 N21 (Nat.le_trans Z0 KK11.1) u19 o11_0 u20
  obtain ⟨T23, L23, X23, e23, N23, st23⟩ := sg237_219 p0 p1 p2 (0 : Int32) (1 : Int32) (1 : Int32) jam (9223372036854775807 : Int64) b272 b273 kc274 .null (.ref bx275) (.ref bx276) X22 hx hZ hw hby hml hown e22 N22 (Nat.le_trans Z0 KK11.1) u19 o11_0 u20
  obtain ⟨fs, hr, hrun, hended, hW, hsame⟩ := X23.leave (v := (some (.int 1))) (fun h => by rw [Bd.returns] at h; cases h)
  refine ⟨_, _, castTop (ef0_IIJ m p0 p1 p2) ?_, hrun, hended, _, _, rfl, ?_, ⟨_, rfl⟩, hW, hsame.mono (by decide) (by decide)⟩
  · show Steps p.tables e below (s₁.setTop (mkF m 0 #[.val (.int p0), .val (.int p1), .val (.long p2), .second, .unset, .unset, .unset, .unset, .unset, .unset, .unset, .unset, .unset, .unset, .unset] [])) _
    refine XS.iloadN X0.here hx rfl (hb hby at_0) rfl ?_
    refine XS.iconst X0.here hx rfl (hb hby at_1) ?_
    show Steps p.tables e below (s₁.setTop (mkF m 2 #[.val (.int p0), .val (.int p1), .val (.long p2), .second, .unset, .unset, .unset, .unset, .unset, .unset, .unset, .unset, .unset, .unset, .unset] [(.int 3), (.int p0)])) _
    refine XS.iand X0.here hx rfl (hb hby at_2) rfl ?_
    show Steps p.tables e below (s₁.setTop (mkF m 3 #[.val (.int p0), .val (.int p1), .val (.long p2), .second, .unset, .unset, .unset, .unset, .unset, .unset, .unset, .unset, .unset, .unset, .unset] [(.int (p0 &&& (3 : Int32)))])) _
    rw [f1]
    refine XS.iconst X0.here hx rfl (hb hby at_3) ?_
    show Steps p.tables e below (s₁.setTop (mkF m 4 #[.val (.int p0), .val (.int p1), .val (.long p2), .second, .unset, .unset, .unset, .unset, .unset, .unset, .unset, .unset, .unset, .unset, .unset] [(.int 1), (.int 3)])) _
    refine XS.iadd X0.here hx rfl (hb hby at_4) rfl ?_
    show Steps p.tables e below (s₁.setTop (mkF m 5 #[.val (.int p0), .val (.int p1), .val (.long p2), .second, .unset, .unset, .unset, .unset, .unset, .unset, .unset, .unset, .unset, .unset, .unset] [(.int ((3 : Int32) + (1 : Int32)))])) _
    rw [show ((3 : Int32) + (1 : Int32)) = (4 : Int32) from by decide]
    refine XS.istore X0.here hx rfl (hb hby at_5) rfl (l' := #[.val (.int p0), .val (.int p1), .val (.long p2), .second, .val (.int 4), .unset, .unset, .unset, .unset, .unset, .unset, .unset, .unset, .unset, .unset]) rfl ?_
    show Steps p.tables e below (s₁.setTop (mkF m 7 #[.val (.int p0), .val (.int p1), .val (.long p2), .second, .val (.int 4), .unset, .unset, .unset, .unset, .unset, .unset, .unset, .unset, .unset, .unset] [])) _
    refine st1 _ ?_
    show Steps p.tables e below (T1.setTop (mkF m 20 #[.val (.int p0), .val (.int p1), .val (.long p2), .second, .val (.int 4), .val (.int 0), .unset, .unset, .unset, .unset, .unset, .unset, .unset, .unset, .unset] [])) _
    refine st2 _ ?_
    show Steps p.tables e below (T2.setTop (mkF m 39 #[.val (.int p0), .val (.int p1), .val (.long p2), .second, .val (.int 4), .val (.int 0), .val (.int 1), .unset, .unset, .unset, .unset, .unset, .unset, .unset, .unset] [])) _
    refine st3 _ ?_
    show Steps p.tables e below (T3.setTop (mkF m 58 #[.val (.int p0), .val (.int p1), .val (.long p2), .second, .val (.int 4), .val (.int 0), .val (.int 1), .val (.int 1), .unset, .unset, .unset, .unset, .unset, .unset, .unset] [])) _
    refine st4 _ ?_
    show Steps p.tables e below (T4.setTop (mkF m 78 #[.val (.int p0), .val (.int p1), .val (.long p2), .second, .val (.int 4), .val (.int 0), .val (.int 1), .val (.int 1), .val (.int 0), .unset, .unset, .unset, .unset, .unset, .unset] [])) _
    refine st5 _ ?_
    show Steps p.tables e below (T5.setTop (mkF m 90 #[.val (.int p0), .val (.int p1), .val (.long p2), .second, .val (.int 4), .val (.int 0), .val (.int 1), .val (.int 1), .val (.int 0), .val (.long jam), .second, .val (.long 9223372036854775807), .second, .unset, .unset] [])) _
    refine st6 _ ?_
    show Steps p.tables e below (T6.setTop (mkF m 101 #[.val (.int p0), .val (.int p1), .val (.long p2), .second, .val (.int 4), .val (.int 0), .val (.int 1), .val (.int 1), .val (.int 0), .val (.long jam), .second, .val (.long 9223372036854775807), .second, .val (.ref b272), .unset] [])) _
    refine st7 _ ?_
    show Steps p.tables e below (T7.setTop (mkF m 116 #[.val (.int p0), .val (.int p1), .val (.long p2), .second, .val (.int 4), .val (.int 0), .val (.int 1), .val (.int 1), .val (.int 0), .val (.long jam), .second, .val (.long 9223372036854775807), .second, .val (.ref b272), .unset] [])) _
    refine st8 _ ?_
    show Steps p.tables e below (T8.setTop (mkF m 131 #[.val (.int p0), .val (.int p1), .val (.long p2), .second, .val (.int 4), .val (.int 0), .val (.int 1), .val (.int 1), .val (.int 0), .val (.long jam), .second, .val (.long 9223372036854775807), .second, .val (.ref b272), .unset] [])) _
    refine st11 _ ?_
    show Steps p.tables e below (T11.setTop (mkF m 146 #[.val (.int p0), .val (.int p1), .val (.long p2), .second, .val (.int 4), .val (.int 0), .val (.int 1), .val (.int 1), .val (.int 0), .val (.long jam), .second, .val (.long 9223372036854775807), .second, .val (.ref b272), .unset] [])) _
    refine st17 _ ?_
    show Steps p.tables e below (T17.setTop (mkF m 161 #[.val (.int p0), .val (.int p1), .val (.long p2), .second, .val (.int 4), .val (.int 0), .val (.int 1), .val (.int 1), .val (.int 0), .val (.long jam), .second, .val (.long 9223372036854775807), .second, .val (.ref b272), .unset] [])) _
    refine st18 _ ?_
    show Steps p.tables e below (T18.setTop (mkF m 179 #[.val (.int p0), .val (.int p1), .val (.long p2), .second, .val (.int 4), .val (.int 0), .val (.int 1), .val (.int 1), .val (.int 0), .val (.long jam), .second, .val (.long 9223372036854775807), .second, .val (.ref b272), .val (.int 1)] [])) _
    refine st21 _ ?_
    show Steps p.tables e below (T21.setTop (mkF m 208 #[.val (.int p0), .val (.int p1), .val (.long p2), .second, .val (.int 4), .val (.int 0), .val (.int 1), .val (.int 1), .val (.int 0), .val (.long jam), .second, .val (.long 9223372036854775807), .second, .val (.ref b272), .val (.int 1)] [])) _
    refine st22 _ ?_
    show Steps p.tables e below (T22.setTop (mkF m 237 #[.val (.int p0), .val (.int p1), .val (.long p2), .second, .val (.int 4), .val (.int 0), .val (.int 1), .val (.int 1), .val (.int 0), .val (.long jam), .second, .val (.long 9223372036854775807), .second, .val (.ref b272), .val (.int 1)] [])) _
    refine st23 _ ?_
    refine XS.iload X23.here hx rfl (hb hby at_266) rfl ?_
    show Steps p.tables e below (T23.setTop (mkF m 268 #[.val (.int p0), .val (.int p1), .val (.long p2), .second, .val (.int 4), .val (.int 0), .val (.int 1), .val (.int 1), .val (.int 0), .val (.long jam), .second, .val (.long 9223372036854775807), .second, .val (.ref b272), .val (.int 1)] [(.int 1)])) _
    exact retN X23 hx (t := .boolean) Bd.returns (by simp) (hb hby at_268) hr
  · show QT n0 _ T23.heap _
    rw [e23]
    exact ⟨rfl, N23⟩
set_option maxRecDepth 65536 in
set_option maxHeartbeats 40000000 in
theorem rm0_284 (l : Launch) (Z : State) (a0 : Array Value) (hw : ∀ d ∈ tables_1, d.before a0 Z = true) (ws : List Jvm.Cond) (p0 : Int32) (p1 : Int32) (p2 : Int64) (jam : Int64) (a_cache : Addr) (h0 : Heap) (n0 : Nat) (Z0 : n0 ≤ h0.size) (f1 : (p0 &&& (3 : Int32)) = (3 : Int32)) (f2 : (p1 &&& (1 : Int32)) = (0 : Int32)) (f3 : ¬ ((p1 &&& (2 : Int32)) = (0 : Int32))) (f4 : ¬ ((p1 &&& (4 : Int32)) = (0 : Int32))) (f5 : ¬ ((p1 &&& (8 : Int32)) = (0 : Int32))) (f6 : (p2 &&& (9223372036854775807 : Int64)) = jam) (f7 : ¬ ((lcmpW jam (0 : Int64)) < (0 : Int32))) (f8 : ¬ ((0 : Int32) < (lcmpW jam (9223372036854775807 : Int64)))) (f9 : ¬ ((lcmpW jam (-128 : Int64)) < (0 : Int32))) (f10 : S_0 Z h0 (.ref a_cache)) (f11 : OwnAll Z h0 a_cache "java/lang/Long") (f12 : E_0 Z h0 a_cache) :
    MetFree l x (head1 (Jvm.Cond.code x code maxLocals ret :: ws) room_1) (fun a U => a = #[(.int p0), (.int p1), (.long p2)] ∧ Z.Warmed39 U.vm ∧ U.heap = h0) (fun _ _ _ _ _ => True) (fun _ U o U' => ∃ v L, o = .returned v ∧ QT n0 v U'.heap L ∧ FrameEnd U o U' L room_1.cells room_1.slots) := by
  refine MetFree.of_bodySF (plainFor_of_name pn_hexwright_engine_SealedBidsHasBidPinLaw) hisR ?_
  intro p e s m args below meth c s₁ Bd hml0 hP hK
  obtain ⟨rfl, hZ, hh⟩ := hP
  have hx := Bd.exec
  have hby := Bd.bytes
  have hml : c.maxLocals = 15 := hml0
  have hown : s.vm.findClass "hexwright/engine/SealedBidsHasBidPinLaw" = some m.cls := findClass_of_methodNamed Bd.named
  have hnm := (name_of_methodNamed Bd.named Bd.method).1
  have X0 : Stand p l e room_1 s m #[(.int p0), (.int p1), (.long p2)] below meth c s₁ [] 0 0 := Stand.of_body Bd
  have e0 : s₁.heap = h0 := by rw [← hh, Bd.state]; rfl
  have N0 := Fr.nil n0
  obtain ⟨T1, L1, X1, e1, N1, st1⟩ := sg7_1 p0 p1 p2 (4 : Int32) X0 hx hZ hw hby hml hown e0 N0 Z0 f2
  obtain ⟨T2, L2, X2, e2, N2, st2⟩ := sg20_253 p0 p1 p2 (0 : Int32) X1 hx hZ hw hby hml hown e1 N1 Z0 f3
  obtain ⟨T3, L3, X3, e3, N3, st3⟩ := sg39_234 p0 p1 p2 (0 : Int32) (1 : Int32) X2 hx hZ hw hby hml hown e2 N2 Z0 f4
  obtain ⟨T4, L4, X4, e4, N4, st4⟩ := sg58_221 p0 p1 p2 (0 : Int32) (1 : Int32) (1 : Int32) X3 hx hZ hw hby hml hown e3 N3 Z0 f5
  obtain ⟨T5, L5, X5, e5, N5, st5⟩ := sg78_5 p0 p1 p2 (4 : Int32) (0 : Int32) (1 : Int32) (1 : Int32) (1 : Int32) jam X4 hx hZ hw hby hml hown e4 N4 Z0 f6
  obtain ⟨T6, h6, L6, b278, b279, kc280, X6, e6, N6, K6, le_b278, le_b279, o6_0, o6_1, o6_2, o6_3, o6_4, st6⟩ := sg90_204 p0 p1 p2 (0 : Int32) (1 : Int32) (1 : Int32) (1 : Int32) jam (9223372036854775807 : Int64) X5 hx hZ hw hby hml hown e5 N5 Z0 
  have sz_b278 : h0.size ≤ b278 := Nat.le_trans (Nat.le_refl _) le_b278
  have g_b278 : n0 ≤ b278 := Nat.le_trans Z0 sz_b278
  have sz_b279 : h0.size ≤ b279 := Nat.le_trans (Nat.le_refl _) le_b279
  have g_b279 : n0 ≤ b279 := Nat.le_trans Z0 sz_b279
  have KK6 : Keep h0 h6 [] := (Keep.refl h0 []).trans K6 (fun x hx => nomatch hx)
  obtain ⟨T7, L7, X7, e7, N7, st7⟩ := sg101_208 p0 p1 p2 (4 : Int32) (1 : Int32) (1 : Int32) (1 : Int32) jam b278 X6 hx hZ hw hby hml hown e6 N6 (Nat.le_trans Z0 KK6.1) 
  have u9 : S_0 Z h6 (.ref a_cache) := own_sta_keep f10 K6 (fun _ q => nomatch q)
  have u10 : OwnAll Z h6 a_cache "java/lang/Long" := own_all_keep f11 K6 List.not_mem_nil
  obtain ⟨T8, h8, L8, bx281, X8, e8, N8, K8, o8_0, st8⟩ := sg116_261 p0 p1 p2 (4 : Int32) (0 : Int32) (1 : Int32) (1 : Int32) jam b278 b279 kc280 .null .null .null a_cache X7 hx hZ hw hby hml hown e7 N7 (Nat.le_trans Z0 KK6.1) o6_1 o6_2 f7 f8 f9 u9 u10 g_b279 o6_3 o6_0
  have KK8 : Keep h0 h8 [] := KK6.trans K8 (fun x hx => (List.mem_cons.mp hx).elim (fun q => q ▸ (Or.inr sz_b279)) (fun hx => nomatch hx))
  have u12 : F_0 Z h8 b278 (.ref b279) := Fld.keep o6_1 K8 (own_notin o6_4 List.not_mem_nil)
  have u13 : S_0 Z h8 (.ref a_cache) := own_sta_keep u9 K8 (own_ns (Arv.nostat o6_2) (fun _ q => nomatch q))
  have ne14 : a_cache ≠ b279 := Nat.ne_of_lt (Nat.lt_of_lt_of_le (Exa.lt f12) le_b279)
  have u15 : OwnAll Z h8 a_cache "java/lang/Long" := own_all_keep u10 K8 (own_notin ne14 List.not_mem_nil)
  have u16 : E_1 Z h8 b278 := Exa.keep o6_0 K8
  obtain ⟨T11, h11, L11, bx282, X11, e11, N11, K11, o11_0, st11⟩ := sg131_242 p0 p1 p2 (4 : Int32) (0 : Int32) (1 : Int32) (1 : Int32) jam b278 b279 kc280 .null (.ref bx281) .null a_cache X8 hx hZ hw hby hml hown e8 N8 (Nat.le_trans Z0 KK8.1) u12 o8_0 f7 f8 f9 u13 u15 g_b279 o6_3 u16
  have KK11 : Keep h0 h11 [] := KK8.trans K11 (fun x hx => (List.mem_cons.mp hx).elim (fun q => q ▸ (Or.inr sz_b279)) (fun hx => nomatch hx))
  have u18 : F_0 Z h11 b278 (.ref b279) := Fld.keep u12 K11 (own_notin o6_4 List.not_mem_nil)
  have u19 : S_0 Z h11 (.ref a_cache) := own_sta_keep u13 K11 (own_ns (Arv.nostat o8_0) (fun _ q => nomatch q))
  have u20 : OwnAll Z h11 a_cache "java/lang/Long" := own_all_keep u15 K11 (own_notin ne14 List.not_mem_nil)
  have u21 : E_1 Z h11 b278 := Exa.keep u16 K11
  obtain ⟨T17, h17, L17, bx283, X17, e17, N17, K17, o17_0, st17⟩ := sg146_229 p0 p1 p2 (4 : Int32) (0 : Int32) (1 : Int32) (1 : Int32) jam b278 b279 kc280 .null (.ref bx281) (.ref bx282) a_cache X11 hx hZ hw hby hml hown e11 N11 (Nat.le_trans Z0 KK11.1) u18 o11_0 f7 f8 f9 u19 u20 g_b279 o6_3 u21
  have KK17 : Keep h0 h17 [] := KK11.trans K17 (fun x hx => (List.mem_cons.mp hx).elim (fun q => q ▸ (Or.inr sz_b279)) (fun hx => nomatch hx))
  have u23 : F_0 Z h17 b278 (.ref b279) := Fld.keep u18 K17 (own_notin o6_4 List.not_mem_nil)
  have u24 : E_1 Z h17 b278 := Exa.keep u21 K17
  obtain ⟨T22, L22, X22, e22, N22, st22⟩ := sg161_213 p0 p1 p2 (4 : Int32) (1 : Int32) (1 : Int32) (1 : Int32) jam (9223372036854775807 : Int64) b278 b279 kc280 (.ref bx281) (.ref bx282) (.ref bx283) X17 hx hZ hw hby hml hown e17 N17 (Nat.le_trans Z0 KK17.1) u23 o17_0 u24
  obtain ⟨T25, L25, X25, e25, N25, st25⟩ := sg179_264 p0 p1 p2 (0 : Int32) (1 : Int32) (1 : Int32) jam (9223372036854775807 : Int64) b278 b279 kc280 .null bx281 (.ref bx282) (.ref bx283) X22 hx hZ hw hby hml hown e22 N22 (Nat.le_trans Z0 KK17.1) u23 o17_0 u24
  obtain ⟨T26, L26, X26, e26, N26, st26⟩ := sg208_245 p0 p1 p2 (0 : Int32) (1 : Int32) (1 : Int32) jam (9223372036854775807 : Int64) b278 b279 kc280 .null (.ref bx281) bx282 (.ref bx283) X25 hx hZ hw hby hml hown e25 N25 (Nat.le_trans Z0 KK17.1) u23 o17_0 u24
  obtain ⟨T27, L27, X27, e27, N27, st27⟩ := sg237_232 p0 p1 p2 (0 : Int32) (1 : Int32) (1 : Int32) jam (9223372036854775807 : Int64) b278 b279 kc280 .null (.ref bx281) (.ref bx282) bx283 X26 hx hZ hw hby hml hown e26 N26 (Nat.le_trans Z0 KK17.1) u23 o17_0 u24
  obtain ⟨fs, hr, hrun, hended, hW, hsame⟩ := X27.leave (v := (some (.int 1))) (fun h => by rw [Bd.returns] at h; cases h)
  refine ⟨_, _, castTop (ef0_IIJ m p0 p1 p2) ?_, hrun, hended, _, _, rfl, ?_, ⟨_, rfl⟩, hW, hsame.mono (by decide) (by decide)⟩
  · show Steps p.tables e below (s₁.setTop (mkF m 0 #[.val (.int p0), .val (.int p1), .val (.long p2), .second, .unset, .unset, .unset, .unset, .unset, .unset, .unset, .unset, .unset, .unset, .unset] [])) _
    refine XS.iloadN X0.here hx rfl (hb hby at_0) rfl ?_
    refine XS.iconst X0.here hx rfl (hb hby at_1) ?_
    show Steps p.tables e below (s₁.setTop (mkF m 2 #[.val (.int p0), .val (.int p1), .val (.long p2), .second, .unset, .unset, .unset, .unset, .unset, .unset, .unset, .unset, .unset, .unset, .unset] [(.int 3), (.int p0)])) _
    refine XS.iand X0.here hx rfl (hb hby at_2) rfl ?_
    show Steps p.tables e below (s₁.setTop (mkF m 3 #[.val (.int p0), .val (.int p1), .val (.long p2), .second, .unset, .unset, .unset, .unset, .unset, .unset, .unset, .unset, .unset, .unset, .unset] [(.int (p0 &&& (3 : Int32)))])) _
    rw [f1]
    refine XS.iconst X0.here hx rfl (hb hby at_3) ?_
    show Steps p.tables e below (s₁.setTop (mkF m 4 #[.val (.int p0), .val (.int p1), .val (.long p2), .second, .unset, .unset, .unset, .unset, .unset, .unset, .unset, .unset, .unset, .unset, .unset] [(.int 1), (.int 3)])) _
    refine XS.iadd X0.here hx rfl (hb hby at_4) rfl ?_
    show Steps p.tables e below (s₁.setTop (mkF m 5 #[.val (.int p0), .val (.int p1), .val (.long p2), .second, .unset, .unset, .unset, .unset, .unset, .unset, .unset, .unset, .unset, .unset, .unset] [(.int ((3 : Int32) + (1 : Int32)))])) _
    rw [show ((3 : Int32) + (1 : Int32)) = (4 : Int32) from by decide]
    refine XS.istore X0.here hx rfl (hb hby at_5) rfl (l' := #[.val (.int p0), .val (.int p1), .val (.long p2), .second, .val (.int 4), .unset, .unset, .unset, .unset, .unset, .unset, .unset, .unset, .unset, .unset]) rfl ?_
    show Steps p.tables e below (s₁.setTop (mkF m 7 #[.val (.int p0), .val (.int p1), .val (.long p2), .second, .val (.int 4), .unset, .unset, .unset, .unset, .unset, .unset, .unset, .unset, .unset, .unset] [])) _
    refine st1 _ ?_
    show Steps p.tables e below (T1.setTop (mkF m 20 #[.val (.int p0), .val (.int p1), .val (.long p2), .second, .val (.int 4), .val (.int 0), .unset, .unset, .unset, .unset, .unset, .unset, .unset, .unset, .unset] [])) _
    refine st2 _ ?_
    show Steps p.tables e below (T2.setTop (mkF m 39 #[.val (.int p0), .val (.int p1), .val (.long p2), .second, .val (.int 4), .val (.int 0), .val (.int 1), .unset, .unset, .unset, .unset, .unset, .unset, .unset, .unset] [])) _
    refine st3 _ ?_
    show Steps p.tables e below (T3.setTop (mkF m 58 #[.val (.int p0), .val (.int p1), .val (.long p2), .second, .val (.int 4), .val (.int 0), .val (.int 1), .val (.int 1), .unset, .unset, .unset, .unset, .unset, .unset, .unset] [])) _
    refine st4 _ ?_
    show Steps p.tables e below (T4.setTop (mkF m 78 #[.val (.int p0), .val (.int p1), .val (.long p2), .second, .val (.int 4), .val (.int 0), .val (.int 1), .val (.int 1), .val (.int 1), .unset, .unset, .unset, .unset, .unset, .unset] [])) _
    refine st5 _ ?_
    show Steps p.tables e below (T5.setTop (mkF m 90 #[.val (.int p0), .val (.int p1), .val (.long p2), .second, .val (.int 4), .val (.int 0), .val (.int 1), .val (.int 1), .val (.int 1), .val (.long jam), .second, .val (.long 9223372036854775807), .second, .unset, .unset] [])) _
    refine st6 _ ?_
    show Steps p.tables e below (T6.setTop (mkF m 101 #[.val (.int p0), .val (.int p1), .val (.long p2), .second, .val (.int 4), .val (.int 0), .val (.int 1), .val (.int 1), .val (.int 1), .val (.long jam), .second, .val (.long 9223372036854775807), .second, .val (.ref b278), .unset] [])) _
    refine st7 _ ?_
    show Steps p.tables e below (T7.setTop (mkF m 116 #[.val (.int p0), .val (.int p1), .val (.long p2), .second, .val (.int 4), .val (.int 0), .val (.int 1), .val (.int 1), .val (.int 1), .val (.long jam), .second, .val (.long 9223372036854775807), .second, .val (.ref b278), .unset] [])) _
    refine st8 _ ?_
    show Steps p.tables e below (T8.setTop (mkF m 131 #[.val (.int p0), .val (.int p1), .val (.long p2), .second, .val (.int 4), .val (.int 0), .val (.int 1), .val (.int 1), .val (.int 1), .val (.long jam), .second, .val (.long 9223372036854775807), .second, .val (.ref b278), .unset] [])) _
    refine st11 _ ?_
    show Steps p.tables e below (T11.setTop (mkF m 146 #[.val (.int p0), .val (.int p1), .val (.long p2), .second, .val (.int 4), .val (.int 0), .val (.int 1), .val (.int 1), .val (.int 1), .val (.long jam), .second, .val (.long 9223372036854775807), .second, .val (.ref b278), .unset] [])) _
    refine st17 _ ?_
    show Steps p.tables e below (T17.setTop (mkF m 161 #[.val (.int p0), .val (.int p1), .val (.long p2), .second, .val (.int 4), .val (.int 0), .val (.int 1), .val (.int 1), .val (.int 1), .val (.long jam), .second, .val (.long 9223372036854775807), .second, .val (.ref b278), .unset] [])) _
    refine st22 _ ?_
    show Steps p.tables e below (T22.setTop (mkF m 179 #[.val (.int p0), .val (.int p1), .val (.long p2), .second, .val (.int 4), .val (.int 0), .val (.int 1), .val (.int 1), .val (.int 1), .val (.long jam), .second, .val (.long 9223372036854775807), .second, .val (.ref b278), .val (.int 1)] [])) _
    refine st25 _ ?_
    show Steps p.tables e below (T25.setTop (mkF m 208 #[.val (.int p0), .val (.int p1), .val (.long p2), .second, .val (.int 4), .val (.int 0), .val (.int 1), .val (.int 1), .val (.int 1), .val (.long jam), .second, .val (.long 9223372036854775807), .second, .val (.ref b278), .val (.int 1)] [])) _
    refine st26 _ ?_
    show Steps p.tables e below (T26.setTop (mkF m 237 #[.val (.int p0), .val (.int p1), .val (.long p2), .second, .val (.int 4), .val (.int 0), .val (.int 1), .val (.int 1), .val (.int 1), .val (.long jam), .second, .val (.long 9223372036854775807), .second, .val (.ref b278), .val (.int 1)] [])) _
    refine st27 _ ?_
    refine XS.iload X27.here hx rfl (hb hby at_266) rfl ?_
    show Steps p.tables e below (T27.setTop (mkF m 268 #[.val (.int p0), .val (.int p1), .val (.long p2), .second, .val (.int 4), .val (.int 0), .val (.int 1), .val (.int 1), .val (.int 1), .val (.long jam), .second, .val (.long 9223372036854775807), .second, .val (.ref b278), .val (.int 1)] [(.int 1)])) _
    exact retN X27 hx (t := .boolean) Bd.returns (by simp) (hb hby at_268) hr
  · show QT n0 _ T27.heap _
    rw [e27]
    exact ⟨rfl, N27⟩
def Q3_290 (Z : State) (c1_a : Addr) (c2_k : ClassId) (gx1 : Value) (gx2 : Value) (gx3 : Value) (h0 : Heap) (n0 : Nat) (v : Option Value) (h : Heap) (L : List Loc) : Prop := ∃ (bx288 : Addr), v = none ∧ Fr n0 L ∧ Keep h0 h [c1_a] ∧ Arv Z h c1_a c2_k (.object "java/lang/Long") (4 : Int32) [(.ref bx288), gx1, gx2, gx3] .null
set_option maxRecDepth 65536 in
set_option maxHeartbeats 40000000 in
theorem rm3_289 (l : Launch) (Z : State) (a0 : Array Value) (hw : ∀ d ∈ tables_1, d.before a0 Z = true) (ws : List Jvm.Cond) (c0_a : Addr) (jam : Int64) (c1_a : Addr) (c2_k : ClassId) (gx1 : Value) (gx2 : Value) (gx3 : Value) (a_cache : Addr) (h0 : Heap) (n0 : Nat) (Z0 : n0 ≤ h0.size) (f1 : F_0 Z h0 c0_a (.ref c1_a)) (f2 : Arv Z h0 c1_a c2_k (.object "java/lang/Long") (4 : Int32) [.null, gx1, gx2, gx3] .null) (f3 : ¬ ((lcmpW jam (0 : Int64)) < (0 : Int32))) (f4 : ¬ ((0 : Int32) < (lcmpW jam (9223372036854775807 : Int64)))) (f5 : ¬ ((lcmpW jam (-128 : Int64)) < (0 : Int32))) (f6 : S_0 Z h0 (.ref a_cache)) (f7 : OwnAll Z h0 a_cache "java/lang/Long") (f8 : n0 ≤ c1_a) (f9 : Ovr Z c2_k "java/lang/Long") :
    MetFree l M_5 (head1 (Jvm.Cond.code M_5 prog_14_method_2_code 6 none :: ws) R_4_1_1_55) (fun a U => a = #[(.ref c0_a), (.int 1), (.long jam), (.long 9223372036854775807)] ∧ Z.Warmed39 U.vm ∧ U.heap = h0) (fun _ _ _ _ _ => True) (fun _ U o U' => ∃ v L, o = .returned v ∧ Q3_290 Z c1_a c2_k gx1 gx2 gx3 h0 n0 v U'.heap L ∧ FrameEnd U o U' L R_4_1_1_55.cells R_4_1_1_55.slots) := by
  refine MetFree.of_bodySF (plainFor_of_name pn_hexwright_engine_SealedBids) hisR ?_
  intro p e s m args below meth c s₁ Bd hml0 hP hK
  obtain ⟨rfl, hZ, hh⟩ := hP
  have hx := Bd.exec
  have hby := Bd.bytes
  have hml : c.maxLocals = 6 := hml0
  have hown : s.vm.findClass "hexwright/engine/SealedBids" = some m.cls := findClass_of_methodNamed Bd.named
  have hnm := (name_of_methodNamed Bd.named Bd.method).1
  have X0 : Stand p l e R_4_1_1_55 s m #[(.ref c0_a), (.int 1), (.long jam), (.long 9223372036854775807)] below meth c s₁ [] 0 0 := Stand.of_body Bd
  have e0 : s₁.heap = h0 := by rw [← hh, Bd.state]; rfl
  have N0 := Fr.nil n0
  obtain ⟨T1, X1, e1, st1⟩ := getF X0 hx hZ hown (host := "") (Or.inl (tw_12 hw)) Via.refl e0 f1 (g := (mkF m 1 #[.val (.ref c0_a), .val (.int 1), .val (.long jam), .second, .val (.long 9223372036854775807), .second] [(.ref c0_a)])) rfl rfl (hb hby d3_1)
  have va2 := f2
  obtain ⟨cl2, Ar2, -, S2, -, H2, -⟩ := va2
  have hin2 : ¬ ((0 : Int32) < 0 ∨ cl2.slots.size ≤ ((0 : Int32)).toNatClampNeg) := inb_of S2 ⟨by decide, by decide⟩
  have hat2 : cl2.slots[((0 : Int32)).toNatClampNeg]? = some .null := H2 _ (Nat.lt_of_not_le fun y => hin2 (Or.inr y))
  obtain ⟨T3, X3, e3, st3⟩ := getF X1 hx hZ hown (host := "") (Or.inl (tw_12 hw)) Via.refl e1 f1 (g := (mkF m 56 #[.val (.ref c0_a), .val (.int 1), .val (.long jam), .second, .val (.long 9223372036854775807), .second] [(.ref c0_a)])) rfl rfl (hb hby d3_56)
  -- pc 63: java/lang/Long.valueOf
  obtain ⟨_, _, ⟨T4, L4, k4, n4⟩, -, X4, ⟨Lc4, hQ4, l4, y4, z4⟩, st4⟩ := Jvm.LawKit.callS X3 hx (y := M_4) hown (mvT hZ (tw_19 hw)) (mvT hZ (tw_20 hw)) (mvT hZ (tw_21 hw)) (mvT hZ (tw_22 hw)) (by decide) (backOf (W := 2) (rmB_38 l Z a0 hw [] jam a_cache h0 n0 Z0 f5 f6 f7) hZ (tw_22 hw) (tw_21 hw) (by decide) (by decide)) (g := (mkF m 63 #[.val (.ref c0_a), .val (.int 1), .val (.long jam), .second, .val (.long 9223372036854775807), .second] [(.long jam), (.int 0), (.ref c1_a)])) rfl (by rw [hml]; rfl) (argsL := [(.long jam)]) (rest := [(.int 0), (.ref c1_a)]) (lenOf pd_4 rfl) rfl (by show 2 * 0 + _ ≤ _; exact Nat.le_of_eq rfl) (hb hby d3_63) (fun _ _ => ⟨rfl, e3, (by decide : 0 + 1 ≤ _), (by decide : 0 + 1 ≤ _)⟩)
  dsimp only [Pt.U, Pt.locs, Pt.cells, Pt.slots] at X4 l4 y4 z4 st4 hQ4
  subst l4 y4 z4
  obtain ⟨bx288, rfl, Nq4, K4, o4_0⟩ := hQ4
  have N4 := Fr.app N0 Nq4
  have KK4 : Keep h0 T4.heap [c1_a] := (Keep.refl h0 [c1_a]).trans K4 (fun x hx => nomatch hx)
  have u5 : Arv Z T4.heap c1_a c2_k (.object "java/lang/Long") (4 : Int32) [.null, gx1, gx2, gx3] .null := Arv.keep f2 K4 List.not_mem_nil
  have va6 := u5
  obtain ⟨cl6, Ar6, q6, S6, N6_, H6, G6⟩ := va6
  have hin6 : ¬ ((0 : Int32) < 0 ∨ cl6.slots.size ≤ ((0 : Int32)).toNatClampNeg) := inb_of S6 ⟨by decide, by decide⟩
  obtain ⟨T7, h7, X7, e7, W7, st7⟩ := stR X4 hx hZ rfl Ar6 (j := (0 : Int32)) hin6 rfl (Sto.ofV Ar6 q6 f9 (Ins.self o4_0)) (g := (mkF m 66 #[.val (.ref c0_a), .val (.int 1), .val (.long jam), .second, .val (.long 9223372036854775807), .second] [(.ref bx288), (.int 0), (.ref c1_a)])) rfl rfl (hb hby d3_66)
  have Vw7 : Arv Z h7 c1_a c2_k (.object "java/lang/Long") (4 : Int32) [(.ref bx288), gx1, gx2, gx3] .null := Arv.set Ar6 q6 S6 N6_ H6 G6 rfl W7 0 rfl (Nat.le_of_ble_eq_true rfl)
  have KK7 : Keep h0 h7 [c1_a] := KK4.wr W7 (Or.inl (List.mem_of_getElem? (i := 0) rfl))
  have N7 := Fr.snoc X7 N4 f8
  obtain ⟨fs, hr, hrun, hended, hW, hsame⟩ := X7.leave (v := none) (fun _ => rfl)
  refine ⟨_, _, castTop (ef3_RIJJ m c0_a (1 : Int32) jam (9223372036854775807 : Int64)) ?_, hrun, hended, _, _, rfl, ?_, ⟨_, rfl⟩, hW, hsame.mono (by decide) (by decide)⟩
  · show Steps p.tables e below (s₁.setTop (mkF m 0 #[.val (.ref c0_a), .val (.int 1), .val (.long jam), .second, .val (.long 9223372036854775807), .second] [])) _
    refine XS.aloadN X0.here hx rfl (hb hby d3_0) rfl rfl ?_
    show Steps p.tables e below (s₁.setTop (mkF m 1 #[.val (.ref c0_a), .val (.int 1), .val (.long jam), .second, .val (.long 9223372036854775807), .second] [(.ref c0_a)])) _
    refine st1 _ ?_
    refine XS.iloadN X1.here hx rfl (hb hby d3_4) rfl ?_
    refine XS.iconst X1.here hx rfl (hb hby d3_5) ?_
    show Steps p.tables e below (T1.setTop (mkF m 6 #[.val (.ref c0_a), .val (.int 1), .val (.long jam), .second, .val (.long 9223372036854775807), .second] [(.int 1), (.int 1), (.ref c1_a)])) _
    refine XS.isub X1.here hx rfl (hb hby d3_6) rfl ?_
    show Steps p.tables e below (T1.setTop (mkF m 7 #[.val (.ref c0_a), .val (.int 1), .val (.long jam), .second, .val (.long 9223372036854775807), .second] [(.int ((1 : Int32) - (1 : Int32))), (.ref c1_a)])) _
    rw [show ((1 : Int32) - (1 : Int32)) = (0 : Int32) from by decide]
    show Steps p.tables e below (T1.setTop (mkF m 7 #[.val (.ref c0_a), .val (.int 1), .val (.long jam), .second, .val (.long 9223372036854775807), .second] [(.int 0), (.ref c1_a)])) _
    refine X1.aaload hx (j := (0 : Int32)) (v := .null) (by rw [e1]; exact Ar2.1) (State.isArrayOf_alike hZ.alike Ar2.2.1) rfl Ar2.2.2 hin2 hat2 (g := (mkF m 7 #[.val (.ref c0_a), .val (.int 1), .val (.long jam), .second, .val (.long 9223372036854775807), .second] [(.int 0), (.ref c1_a)])) rfl rfl (hb hby d3_7) _ ?_
    refine XS.ifnullYes X1.here hx rfl (pc0 := 8) (pc' := 25) rfl (hb hby d3_8) rfl (by decide) (by decide) ?_
    refine XS.lloadN X1.here hx rfl (hb hby d3_25) rfl ?_
    refine XS.lconst X1.here hx rfl (hb hby d3_26) ?_
    show Steps p.tables e below (T1.setTop (mkF m 27 #[.val (.ref c0_a), .val (.int 1), .val (.long jam), .second, .val (.long 9223372036854775807), .second] [(.long 0), (.long jam)])) _
    refine XS.lcmp X1.here hx rfl (hb hby d3_27) rfl ?_
    refine XS.ifNo X1.here hx rfl (hb hby d3_28) rfl ((if0 _ _).trans (flt (f3 : ¬ ((lcmpW jam (0 : Int64)) < (0 : Int32)))).1) ?_
    refine XS.lloadN X1.here hx rfl (hb hby d3_31) rfl ?_
    refine XS.lload X1.here hx rfl (hb hby d3_32) rfl ?_
    show Steps p.tables e below (T1.setTop (mkF m 34 #[.val (.ref c0_a), .val (.int 1), .val (.long jam), .second, .val (.long 9223372036854775807), .second] [(.long 9223372036854775807), (.long jam)])) _
    refine XS.lcmp X1.here hx rfl (hb hby d3_34) rfl ?_
    refine XS.ifYes X1.here hx rfl (pc0 := 35) (pc' := 55) rfl (hb hby d3_35) rfl ((if0 _ _).trans (flt (f4 : ¬ ((0 : Int32) < (lcmpW jam (9223372036854775807 : Int64))))).2.2.2) (by decide) (by decide) ?_
    refine XS.aloadN X1.here hx rfl (hb hby d3_55) rfl rfl ?_
    show Steps p.tables e below (T1.setTop (mkF m 56 #[.val (.ref c0_a), .val (.int 1), .val (.long jam), .second, .val (.long 9223372036854775807), .second] [(.ref c0_a)])) _
    refine st3 _ ?_
    refine XS.iloadN X3.here hx rfl (hb hby d3_59) rfl ?_
    refine XS.iconst X3.here hx rfl (hb hby d3_60) ?_
    show Steps p.tables e below (T3.setTop (mkF m 61 #[.val (.ref c0_a), .val (.int 1), .val (.long jam), .second, .val (.long 9223372036854775807), .second] [(.int 1), (.int 1), (.ref c1_a)])) _
    refine XS.isub X3.here hx rfl (hb hby d3_61) rfl ?_
    show Steps p.tables e below (T3.setTop (mkF m 62 #[.val (.ref c0_a), .val (.int 1), .val (.long jam), .second, .val (.long 9223372036854775807), .second] [(.int ((1 : Int32) - (1 : Int32))), (.ref c1_a)])) _
    rw [show ((1 : Int32) - (1 : Int32)) = (0 : Int32) from by decide]
    refine XS.lloadN X3.here hx rfl (hb hby d3_62) rfl ?_
    show Steps p.tables e below (T3.setTop (mkF m 63 #[.val (.ref c0_a), .val (.int 1), .val (.long jam), .second, .val (.long 9223372036854775807), .second] [(.long jam), (.int 0), (.ref c1_a)])) _
    refine st4 _ ?_
    show Steps p.tables e below (T4.setTop (mkF m 66 #[.val (.ref c0_a), .val (.int 1), .val (.long jam), .second, .val (.long 9223372036854775807), .second] [(.ref bx288), (.int 0), (.ref c1_a)])) _
    refine st7 _ ?_
    show Steps p.tables e below (T7.setTop (mkF m 67 #[.val (.ref c0_a), .val (.int 1), .val (.long jam), .second, .val (.long 9223372036854775807), .second] [])) _
    exact X7.returnOut hx Bd.returns (hb hby d3_67) hr
  · show Q3_290 Z c1_a c2_k gx1 gx2 gx3 h0 n0 _ T7.heap _
    rw [e7]
    exact ⟨bx288, rfl, N7, KK7, Vw7⟩
set_option maxRecDepth 65536 in
set_option maxHeartbeats 40000000 in
theorem sg101_292 {p : Program} {l : Launch} {e : Env} {s : State} {m : MethodId} {below : List Frame} {meth : Method} {c : Code} {T0 : State} {locs : List Loc} {Z : State} {a0 : Array Value} (p0 : Int32) (p1 : Int32) (p2 : Int64) (gq4 : Int32) (gq6 : Int32) (gq7 : Int32) (gq8 : Int32) (jam : Int64) (c0_a : Addr) (c1_a : Addr) (c2_k : ClassId) (gx1 : Value) (gx2 : Value) (gx3 : Value) (a_cache : Addr) {h0 : Heap} {n0 : Nat} (X0 : Stand p l e room_1 s m #[(.int p0), (.int p1), (.long p2)] below meth c T0 locs 2 5) (hx : p.tables.exec = Jvm.exec) (hZ : Z.Warmed39 s.vm) (hw : ∀ d ∈ tables_1, d.before a0 Z = true) (hby : c.code = code) (hml : c.maxLocals = 15) (hown : s.vm.findClass "hexwright/engine/SealedBidsHasBidPinLaw" = some m.cls) (e0 : T0.heap = h0) (N0 : Fr n0 locs) (Z0 : n0 ≤ h0.size) (f1 : F_0 Z h0 c0_a (.ref c1_a)) (f2 : Arv Z h0 c1_a c2_k (.object "java/lang/Long") (4 : Int32) [.null, gx1, gx2, gx3] .null) (f3 : ¬ ((lcmpW jam (0 : Int64)) < (0 : Int32))) (f4 : ¬ ((0 : Int32) < (lcmpW jam (9223372036854775807 : Int64)))) (f5 : ¬ ((lcmpW jam (-128 : Int64)) < (0 : Int32))) (f6 : S_0 Z h0 (.ref a_cache)) (f7 : OwnAll Z h0 a_cache "java/lang/Long") (f8 : n0 ≤ c1_a) (f9 : Ovr Z c2_k "java/lang/Long") (f10 : E_1 Z h0 c0_a) :
    ∃ (T : State) (h : Heap) (L : List Loc) (bx291 : Addr), Stand p l e room_1 s m #[(.int p0), (.int p1), (.long p2)] below meth c T L 3 6 ∧ T.heap = h ∧ Fr n0 L ∧ Keep h0 h [c1_a] ∧ Arv Z h c1_a c2_k (.object "java/lang/Long") (4 : Int32) [(.ref bx291), gx1, gx2, gx3] .null ∧ (∀ target, Steps p.tables e below (T.setTop (mkF m 116 #[.val (.int p0), .val (.int p1), .val (.long p2), .second, .val (.int gq4), .val (.int 1), .val (.int gq6), .val (.int gq7), .val (.int gq8), .val (.long jam), .second, .val (.long 9223372036854775807), .second, .val (.ref c0_a), .unset] [])) target → Steps p.tables e below (T0.setTop (mkF m 101 #[.val (.int p0), .val (.int p1), .val (.long p2), .second, .val (.int gq4), .val (.int 1), .val (.int gq6), .val (.int gq7), .val (.int gq8), .val (.long jam), .second, .val (.long 9223372036854775807), .second, .val (.ref c0_a), .unset] [])) target) := by
  -- pc 113: hexwright/engine/SealedBids.bid
  obtain ⟨cq1, kq1, q1a, q1b, q1c⟩ := isOf hZ e0 f10
  obtain ⟨_, _, ⟨T1, L1, k1, n1⟩, -, X1, ⟨Lc1, hQ1, l1, y1, z1⟩, st1⟩ := X0.virtualBack hx (y := M_5) (z := M_5) hown (mvT hZ (tw_14 hw)) (mvT hZ (tw_15 hw)) (notFace_of_selects (args := #[]) (mvT hZ (tw_17 hw))) (mvT hZ (tw_17 hw)) (mvT hZ (tw_16 hw)) (by decide) (backOf (W := 0) (rm3_289 l Z a0 hw [] c0_a jam c1_a c2_k gx1 gx2 gx3 a_cache h0 n0 Z0 f1 f2 f3 f4 f5 f6 f7 f8 f9) hZ (tw_18 hw) (tw_3 hw) (by decide) (by decide)) q1a q1c (g := (mkF m 113 #[.val (.int p0), .val (.int p1), .val (.long p2), .second, .val (.int gq4), .val (.int 1), .val (.int gq6), .val (.int gq7), .val (.int gq8), .val (.long jam), .second, .val (.long 9223372036854775807), .second, .val (.ref c0_a), .unset] [(.long 9223372036854775807), (.long jam), (.int 1), (.ref c0_a)])) rfl (by rw [hml]; rfl) (Steps.refl _) (argsL := [(.int 1), (.long jam), (.long 9223372036854775807)]) (rest := []) (lenOf pd_5 rfl) rfl (by show 2 * 0 + _ ≤ _; exact Nat.le_of_eq rfl) (hb hby at_113) (fun _ _ => ⟨rfl, e0, (by decide : 2 + 1 ≤ _), (by decide : 5 + 1 ≤ _)⟩)
  dsimp only [Pt.U, Pt.locs, Pt.cells, Pt.slots] at X1 l1 y1 z1 st1 hQ1
  subst l1 y1 z1
  obtain ⟨bx291, rfl, Nq1, K1, o1_0⟩ := hQ1
  have N1 := Fr.app N0 Nq1
  have KK1 : Keep h0 T1.heap [c1_a] := (Keep.refl h0 [c1_a]).trans K1 (fun x hx => (List.mem_cons.mp hx).elim (fun q => q ▸ (Or.inl (List.mem_of_getElem? (i := 0) rfl))) (fun hx => nomatch hx))
  refine ⟨T1, _, _, bx291, (X1.more (by decide) (by decide)), rfl, N1, KK1, o1_0, fun target kt => ?_⟩
  show Steps p.tables e below (T0.setTop (mkF m 101 #[.val (.int p0), .val (.int p1), .val (.long p2), .second, .val (.int gq4), .val (.int 1), .val (.int gq6), .val (.int gq7), .val (.int gq8), .val (.long jam), .second, .val (.long 9223372036854775807), .second, .val (.ref c0_a), .unset] [])) _
  refine XS.iload X0.here hx rfl (hb hby at_101) rfl ?_
  refine XS.ifNo X0.here hx rfl (hb hby at_103) rfl (by decide) ?_
  refine XS.aload X0.here hx rfl (hb hby at_106) rfl rfl ?_
  refine XS.iconst X0.here hx rfl (hb hby at_108) ?_
  refine XS.lload X0.here hx rfl (hb hby at_109) rfl ?_
  show Steps p.tables e below (T0.setTop (mkF m 111 #[.val (.int p0), .val (.int p1), .val (.long p2), .second, .val (.int gq4), .val (.int 1), .val (.int gq6), .val (.int gq7), .val (.int gq8), .val (.long jam), .second, .val (.long 9223372036854775807), .second, .val (.ref c0_a), .unset] [(.long jam), (.int 1), (.ref c0_a)])) _
  refine XS.lload X0.here hx rfl (hb hby at_111) rfl ?_
  show Steps p.tables e below (T0.setTop (mkF m 113 #[.val (.int p0), .val (.int p1), .val (.long p2), .second, .val (.int gq4), .val (.int 1), .val (.int gq6), .val (.int gq7), .val (.int gq8), .val (.long jam), .second, .val (.long 9223372036854775807), .second, .val (.ref c0_a), .unset] [(.long 9223372036854775807), (.long jam), (.int 1), (.ref c0_a)])) _
  refine st1.trans ?_
  show Steps p.tables e below (T1.setTop (mkF m 116 #[.val (.int p0), .val (.int p1), .val (.long p2), .second, .val (.int gq4), .val (.int 1), .val (.int gq6), .val (.int gq7), .val (.int gq8), .val (.long jam), .second, .val (.long 9223372036854775807), .second, .val (.ref c0_a), .unset] [])) _
  exact kt
set_option maxRecDepth 65536 in
set_option maxHeartbeats 40000000 in
theorem rm5_294 (l : Launch) (Z : State) (a0 : Array Value) (hw : ∀ d ∈ tables_1, d.before a0 Z = true) (ws : List Jvm.Cond) (c0_a : Addr) (c1_a : Addr) (c2_k : ClassId) (c3_a : Addr) (gx1 : Value) (gx2 : Value) (gx3 : Value) (h0 : Heap) (n0 : Nat) (Z0 : n0 ≤ h0.size) (f1 : F_0 Z h0 c0_a (.ref c1_a)) (f2 : Arv Z h0 c1_a c2_k (.object "java/lang/Long") (4 : Int32) [(.ref c3_a), gx1, gx2, gx3] .null) :
    MetFree l M_1 (head1 (Jvm.Cond.code M_1 prog_14_method_4_code 2 (some .boolean) :: ws) R_0_0_0_0) (fun a U => a = #[(.ref c0_a), (.int 1)] ∧ Z.Warmed39 U.vm ∧ U.heap = h0) (fun _ _ _ _ _ => True) (fun _ U o U' => ∃ v L, o = .returned v ∧ QP (some (.int 1)) h0 n0 v U'.heap L ∧ FrameEnd U o U' L R_0_0_0_0.cells R_0_0_0_0.slots) := by
  refine MetFree.of_bodySF (plainFor_of_name pn_hexwright_engine_SealedBids) hisR ?_
  intro p e s m args below meth c s₁ Bd hml0 hP hK
  obtain ⟨rfl, hZ, hh⟩ := hP
  have hx := Bd.exec
  have hby := Bd.bytes
  have hml : c.maxLocals = 2 := hml0
  have hown : s.vm.findClass "hexwright/engine/SealedBids" = some m.cls := findClass_of_methodNamed Bd.named
  have hnm := (name_of_methodNamed Bd.named Bd.method).1
  have X0 : Stand p l e R_0_0_0_0 s m #[(.ref c0_a), (.int 1)] below meth c s₁ [] 0 0 := Stand.of_body Bd
  have e0 : s₁.heap = h0 := by rw [← hh, Bd.state]; rfl
  have N0 := Fr.nil n0
  obtain ⟨T1, X1, e1, st1⟩ := getF X0 hx hZ hown (host := "") (Or.inl (tw_12 hw)) Via.refl e0 f1 (g := (mkF m 1 #[.val (.ref c0_a), .val (.int 1)] [(.ref c0_a)])) rfl rfl (hb hby d5_1)
  have va2 := f2
  obtain ⟨cl2, Ar2, -, S2, -, H2, -⟩ := va2
  have hin2 : ¬ ((0 : Int32) < 0 ∨ cl2.slots.size ≤ ((0 : Int32)).toNatClampNeg) := inb_of S2 ⟨by decide, by decide⟩
  have hat2 : cl2.slots[((0 : Int32)).toNatClampNeg]? = some (.ref c3_a) := H2 _ (Nat.lt_of_not_le fun y => hin2 (Or.inr y))
  obtain ⟨fs, hr, hrun, hended, hW, hsame⟩ := X1.leave (v := (some (.int 1))) (fun h => by rw [Bd.returns] at h; cases h)
  refine ⟨_, _, castTop (ef5_RI m c0_a (1 : Int32)) ?_, hrun, hended, _, _, rfl, ?_, ⟨_, rfl⟩, hW, hsame.mono (by decide) (by decide)⟩
  · show Steps p.tables e below (s₁.setTop (mkF m 0 #[.val (.ref c0_a), .val (.int 1)] [])) _
    refine XS.aloadN X0.here hx rfl (hb hby d5_0) rfl rfl ?_
    show Steps p.tables e below (s₁.setTop (mkF m 1 #[.val (.ref c0_a), .val (.int 1)] [(.ref c0_a)])) _
    refine st1 _ ?_
    refine XS.iloadN X1.here hx rfl (hb hby d5_4) rfl ?_
    refine XS.iconst X1.here hx rfl (hb hby d5_5) ?_
    show Steps p.tables e below (T1.setTop (mkF m 6 #[.val (.ref c0_a), .val (.int 1)] [(.int 1), (.int 1), (.ref c1_a)])) _
    refine XS.isub X1.here hx rfl (hb hby d5_6) rfl ?_
    show Steps p.tables e below (T1.setTop (mkF m 7 #[.val (.ref c0_a), .val (.int 1)] [(.int ((1 : Int32) - (1 : Int32))), (.ref c1_a)])) _
    rw [show ((1 : Int32) - (1 : Int32)) = (0 : Int32) from by decide]
    show Steps p.tables e below (T1.setTop (mkF m 7 #[.val (.ref c0_a), .val (.int 1)] [(.int 0), (.ref c1_a)])) _
    refine X1.aaload hx (j := (0 : Int32)) (v := (.ref c3_a)) (by rw [e1]; exact Ar2.1) (State.isArrayOf_alike hZ.alike Ar2.2.1) rfl Ar2.2.2 hin2 hat2 (g := (mkF m 7 #[.val (.ref c0_a), .val (.int 1)] [(.int 0), (.ref c1_a)])) rfl rfl (hb hby d5_7) _ ?_
    refine XS.ifnullNo X1.here hx rfl (hb hby d5_8) rfl ?_
    refine XS.iconst X1.here hx rfl (hb hby d5_11) ?_
    refine XS.goto X1.here hx rfl (pc0 := 12) (pc' := 16) rfl (hb hby d5_12) (by decide) (by decide) ?_
    show Steps p.tables e below (T1.setTop (mkF m 16 #[.val (.ref c0_a), .val (.int 1)] [(.int 1)])) _
    exact retN X1 hx (t := .boolean) Bd.returns (by simp) (hb hby d5_16) hr
  · show QP (some (.int 1)) h0 n0 _ T1.heap _
    rw [e1]
    exact ⟨rfl, N0, rfl⟩
set_option maxRecDepth 65536 in
set_option maxHeartbeats 40000000 in
theorem sg161_295 {p : Program} {l : Launch} {e : Env} {s : State} {m : MethodId} {below : List Frame} {meth : Method} {c : Code} {T0 : State} {locs : List Loc} {Z : State} {a0 : Array Value} (p0 : Int32) (p1 : Int32) (p2 : Int64) (gq4 : Int32) (gq6 : Int32) (gq7 : Int32) (gq8 : Int32) (jam : Int64) (gq11 : Int64) (c0_a : Addr) (c1_a : Addr) (c2_k : ClassId) (c3_a : Addr) (gx1 : Value) (gx2 : Value) (gx3 : Value) {h0 : Heap} {n0 : Nat} (X0 : Stand p l e room_1 s m #[(.int p0), (.int p1), (.long p2)] below meth c T0 locs 6 9) (hx : p.tables.exec = Jvm.exec) (hZ : Z.Warmed39 s.vm) (hw : ∀ d ∈ tables_1, d.before a0 Z = true) (hby : c.code = code) (hml : c.maxLocals = 15) (hown : s.vm.findClass "hexwright/engine/SealedBidsHasBidPinLaw" = some m.cls) (e0 : T0.heap = h0) (N0 : Fr n0 locs) (Z0 : n0 ≤ h0.size) (f1 : F_0 Z h0 c0_a (.ref c1_a)) (f2 : Arv Z h0 c1_a c2_k (.object "java/lang/Long") (4 : Int32) [(.ref c3_a), gx1, gx2, gx3] .null) (f3 : E_1 Z h0 c0_a) :
    ∃ (T : State) (L : List Loc), Stand p l e room_1 s m #[(.int p0), (.int p1), (.long p2)] below meth c T L 6 9 ∧ T.heap = h0 ∧ Fr n0 L ∧ (∀ target, Steps p.tables e below (T.setTop (mkF m 179 #[.val (.int p0), .val (.int p1), .val (.long p2), .second, .val (.int gq4), .val (.int 1), .val (.int gq6), .val (.int gq7), .val (.int gq8), .val (.long jam), .second, .val (.long gq11), .second, .val (.ref c0_a), .val (.int 1)] [])) target → Steps p.tables e below (T0.setTop (mkF m 161 #[.val (.int p0), .val (.int p1), .val (.long p2), .second, .val (.int gq4), .val (.int 1), .val (.int gq6), .val (.int gq7), .val (.int gq8), .val (.long jam), .second, .val (.long gq11), .second, .val (.ref c0_a), .unset] [])) target) := by
  -- pc 164: hexwright/engine/SealedBids.hasBid
  obtain ⟨cq1, kq1, q1a, q1b, q1c⟩ := isOf hZ e0 f3
  obtain ⟨_, _, ⟨T1, L1, k1, n1⟩, -, X1, ⟨Lc1, hQ1, l1, y1, z1⟩, st1⟩ := X0.virtualBack hx (y := M_1) (z := M_1) hown (mvT hZ (tw_28 hw)) (mvT hZ (tw_29 hw)) (notFace_of_selects (args := #[]) (mvT hZ (tw_31 hw))) (mvT hZ (tw_31 hw)) (mvT hZ (tw_30 hw)) (by decide) (backOf (W := 0) (rm5_294 l Z a0 hw [] c0_a c1_a c2_k c3_a gx1 gx2 gx3 h0 n0 Z0 f1 f2) hZ (tw_32 hw) (tw_3 hw) (by decide) (by decide)) q1a q1c (g := (mkF m 164 #[.val (.int p0), .val (.int p1), .val (.long p2), .second, .val (.int gq4), .val (.int 1), .val (.int gq6), .val (.int gq7), .val (.int gq8), .val (.long jam), .second, .val (.long gq11), .second, .val (.ref c0_a), .unset] [(.int 1), (.ref c0_a)])) rfl (by rw [hml]; rfl) (Steps.refl _) (argsL := [(.int 1)]) (rest := []) (lenOf pd_1 rfl) rfl (by show 2 * 0 + _ ≤ _; exact Nat.le_of_eq rfl) (hb hby at_164) (fun _ _ => ⟨rfl, e0, (by decide : 6 + 0 ≤ _), (by decide : 9 + 0 ≤ _)⟩)
  dsimp only [Pt.U, Pt.locs, Pt.cells, Pt.slots] at X1 l1 y1 z1 st1 hQ1
  subst l1 y1 z1
  obtain ⟨rfl, Nq1, e1⟩ := hQ1
  have N1 := Fr.app N0 Nq1
  refine ⟨T1, _, X1, e1, N1, fun target kt => ?_⟩
  show Steps p.tables e below (T0.setTop (mkF m 161 #[.val (.int p0), .val (.int p1), .val (.long p2), .second, .val (.int gq4), .val (.int 1), .val (.int gq6), .val (.int gq7), .val (.int gq8), .val (.long jam), .second, .val (.long gq11), .second, .val (.ref c0_a), .unset] [])) _
  refine XS.aload X0.here hx rfl (hb hby at_161) rfl rfl ?_
  refine XS.iconst X0.here hx rfl (hb hby at_163) ?_
  show Steps p.tables e below (T0.setTop (mkF m 164 #[.val (.int p0), .val (.int p1), .val (.long p2), .second, .val (.int gq4), .val (.int 1), .val (.int gq6), .val (.int gq7), .val (.int gq8), .val (.long jam), .second, .val (.long gq11), .second, .val (.ref c0_a), .unset] [(.int 1), (.ref c0_a)])) _
  refine st1.trans ?_
  refine XS.iload X1.here hx rfl (hb hby at_167) rfl ?_
  refine XS.icmpNo X1.here hx rfl (hb hby at_169) rfl (by decide) ?_
  refine XS.iconst X1.here hx rfl (hb hby at_172) ?_
  refine XS.goto X1.here hx rfl (pc0 := 173) (pc' := 177) rfl (hb hby at_173) (by decide) (by decide) ?_
  show Steps p.tables e below (T1.setTop (mkF m 177 #[.val (.int p0), .val (.int p1), .val (.long p2), .second, .val (.int gq4), .val (.int 1), .val (.int gq6), .val (.int gq7), .val (.int gq8), .val (.long jam), .second, .val (.long gq11), .second, .val (.ref c0_a), .unset] [(.int 1)])) _
  refine XS.istore X1.here hx rfl (hb hby at_177) rfl (l' := #[.val (.int p0), .val (.int p1), .val (.long p2), .second, .val (.int gq4), .val (.int 1), .val (.int gq6), .val (.int gq7), .val (.int gq8), .val (.long jam), .second, .val (.long gq11), .second, .val (.ref c0_a), .val (.int 1)]) rfl ?_
  show Steps p.tables e below (T1.setTop (mkF m 179 #[.val (.int p0), .val (.int p1), .val (.long p2), .second, .val (.int gq4), .val (.int 1), .val (.int gq6), .val (.int gq7), .val (.int gq8), .val (.long jam), .second, .val (.long gq11), .second, .val (.ref c0_a), .val (.int 1)] [])) _
  exact kt
set_option maxRecDepth 65536 in
set_option maxHeartbeats 40000000 in
theorem rm0_296 (l : Launch) (Z : State) (a0 : Array Value) (hw : ∀ d ∈ tables_1, d.before a0 Z = true) (ws : List Jvm.Cond) (p0 : Int32) (p1 : Int32) (p2 : Int64) (jam : Int64) (a_cache : Addr) (h0 : Heap) (n0 : Nat) (Z0 : n0 ≤ h0.size) (f1 : (p0 &&& (3 : Int32)) = (3 : Int32)) (f2 : ¬ ((p1 &&& (1 : Int32)) = (0 : Int32))) (f3 : (p1 &&& (2 : Int32)) = (0 : Int32)) (f4 : (p1 &&& (4 : Int32)) = (0 : Int32)) (f5 : (p1 &&& (8 : Int32)) = (0 : Int32)) (f6 : (p2 &&& (9223372036854775807 : Int64)) = jam) (f7 : ¬ ((lcmpW jam (0 : Int64)) < (0 : Int32))) (f8 : ¬ ((0 : Int32) < (lcmpW jam (9223372036854775807 : Int64)))) (f9 : ¬ ((lcmpW jam (-128 : Int64)) < (0 : Int32))) (f10 : S_0 Z h0 (.ref a_cache)) (f11 : OwnAll Z h0 a_cache "java/lang/Long") :
    MetFree l x (head1 (Jvm.Cond.code x code maxLocals ret :: ws) room_1) (fun a U => a = #[(.int p0), (.int p1), (.long p2)] ∧ Z.Warmed39 U.vm ∧ U.heap = h0) (fun _ _ _ _ _ => True) (fun _ U o U' => ∃ v L, o = .returned v ∧ QT n0 v U'.heap L ∧ FrameEnd U o U' L room_1.cells room_1.slots) := by
  refine MetFree.of_bodySF (plainFor_of_name pn_hexwright_engine_SealedBidsHasBidPinLaw) hisR ?_
  intro p e s m args below meth c s₁ Bd hml0 hP hK
  obtain ⟨rfl, hZ, hh⟩ := hP
  have hx := Bd.exec
  have hby := Bd.bytes
  have hml : c.maxLocals = 15 := hml0
  have hown : s.vm.findClass "hexwright/engine/SealedBidsHasBidPinLaw" = some m.cls := findClass_of_methodNamed Bd.named
  have hnm := (name_of_methodNamed Bd.named Bd.method).1
  have X0 : Stand p l e room_1 s m #[(.int p0), (.int p1), (.long p2)] below meth c s₁ [] 0 0 := Stand.of_body Bd
  have e0 : s₁.heap = h0 := by rw [← hh, Bd.state]; rfl
  have N0 := Fr.nil n0
  obtain ⟨T1, L1, X1, e1, N1, st1⟩ := sg7_27 p0 p1 p2 (4 : Int32) X0 hx hZ hw hby hml hown e0 N0 Z0 f2
  obtain ⟨T2, L2, X2, e2, N2, st2⟩ := sg20_194 p0 p1 p2 (1 : Int32) X1 hx hZ hw hby hml hown e1 N1 Z0 f3
  obtain ⟨T3, L3, X3, e3, N3, st3⟩ := sg39_195 p0 p1 p2 (1 : Int32) (0 : Int32) X2 hx hZ hw hby hml hown e2 N2 Z0 f4
  obtain ⟨T4, L4, X4, e4, N4, st4⟩ := sg58_196 p0 p1 p2 (1 : Int32) (0 : Int32) (0 : Int32) X3 hx hZ hw hby hml hown e3 N3 Z0 f5
  obtain ⟨T5, L5, X5, e5, N5, st5⟩ := sg78_5 p0 p1 p2 (4 : Int32) (1 : Int32) (0 : Int32) (0 : Int32) (0 : Int32) jam X4 hx hZ hw hby hml hown e4 N4 Z0 f6
  obtain ⟨T6, h6, L6, b285, b286, kc287, X6, e6, N6, K6, le_b285, le_b286, o6_0, o6_1, o6_2, o6_3, o6_4, st6⟩ := sg90_204 p0 p1 p2 (1 : Int32) (0 : Int32) (0 : Int32) (0 : Int32) jam (9223372036854775807 : Int64) X5 hx hZ hw hby hml hown e5 N5 Z0 
  have sz_b285 : h0.size ≤ b285 := Nat.le_trans (Nat.le_refl _) le_b285
  have g_b285 : n0 ≤ b285 := Nat.le_trans Z0 sz_b285
  have sz_b286 : h0.size ≤ b286 := Nat.le_trans (Nat.le_refl _) le_b286
  have g_b286 : n0 ≤ b286 := Nat.le_trans Z0 sz_b286
  have KK6 : Keep h0 h6 [] := (Keep.refl h0 []).trans K6 (fun x hx => nomatch hx)
  have u8 : S_0 Z h6 (.ref a_cache) := own_sta_keep f10 K6 (fun _ q => nomatch q)
  have u9 : OwnAll Z h6 a_cache "java/lang/Long" := own_all_keep f11 K6 List.not_mem_nil
  obtain ⟨T7, h7, L7, bx293, X7, e7, N7, K7, o7_0, st7⟩ := sg101_292 p0 p1 p2 (4 : Int32) (0 : Int32) (0 : Int32) (0 : Int32) jam b285 b286 kc287 .null .null .null a_cache X6 hx hZ hw hby hml hown e6 N6 (Nat.le_trans Z0 KK6.1) o6_1 o6_2 f7 f8 f9 u8 u9 g_b286 o6_3 o6_0
  have KK7 : Keep h0 h7 [] := KK6.trans K7 (fun x hx => (List.mem_cons.mp hx).elim (fun q => q ▸ (Or.inr sz_b286)) (fun hx => nomatch hx))
  obtain ⟨T10, L10, X10, e10, N10, st10⟩ := sg116_209 p0 p1 p2 (4 : Int32) (1 : Int32) (0 : Int32) (0 : Int32) jam b285 X7 hx hZ hw hby hml hown e7 N7 (Nat.le_trans Z0 KK7.1) 
  obtain ⟨T11, L11, X11, e11, N11, st11⟩ := sg131_210 p0 p1 p2 (4 : Int32) (1 : Int32) (0 : Int32) (0 : Int32) jam b285 X10 hx hZ hw hby hml hown e10 N10 (Nat.le_trans Z0 KK7.1) 
  obtain ⟨T12, L12, X12, e12, N12, st12⟩ := sg146_211 p0 p1 p2 (4 : Int32) (1 : Int32) (0 : Int32) (0 : Int32) jam b285 X11 hx hZ hw hby hml hown e11 N11 (Nat.le_trans Z0 KK7.1) 
  have u14 : F_0 Z h7 b285 (.ref b286) := Fld.keep o6_1 K7 (own_notin o6_4 List.not_mem_nil)
  have u15 : E_1 Z h7 b285 := Exa.keep o6_0 K7
  obtain ⟨T13, L13, X13, e13, N13, st13⟩ := sg161_295 p0 p1 p2 (4 : Int32) (0 : Int32) (0 : Int32) (0 : Int32) jam (9223372036854775807 : Int64) b285 b286 kc287 bx293 .null .null .null X12 hx hZ hw hby hml hown e12 N12 (Nat.le_trans Z0 KK7.1) u14 o7_0 u15
  obtain ⟨T16, L16, X16, e16, N16, st16⟩ := sg179_215 p0 p1 p2 (1 : Int32) (0 : Int32) (0 : Int32) jam (9223372036854775807 : Int64) b285 b286 kc287 (.ref bx293) .null .null X13 hx hZ hw hby hml hown e13 N13 (Nat.le_trans Z0 KK7.1) u14 o7_0 u15
  obtain ⟨T17, L17, X17, e17, N17, st17⟩ := sg208_217 p0 p1 p2 (1 : Int32) (0 : Int32) (0 : Int32) jam (9223372036854775807 : Int64) b285 b286 kc287 (.ref bx293) .null .null X16 hx hZ hw hby hml hown e16 N16 (Nat.le_trans Z0 KK7.1) u14 o7_0 u15
  obtain ⟨T18, L18, X18, e18, N18, st18⟩ := sg237_219 p0 p1 p2 (1 : Int32) (0 : Int32) (0 : Int32) jam (9223372036854775807 : Int64) b285 b286 kc287 (.ref bx293) .null .null X17 hx hZ hw hby hml hown e17 N17 (Nat.le_trans Z0 KK7.1) u14 o7_0 u15
  obtain ⟨fs, hr, hrun, hended, hW, hsame⟩ := X18.leave (v := (some (.int 1))) (fun h => by rw [Bd.returns] at h; cases h)
  refine ⟨_, _, castTop (ef0_IIJ m p0 p1 p2) ?_, hrun, hended, _, _, rfl, ?_, ⟨_, rfl⟩, hW, hsame.mono (by decide) (by decide)⟩
  · show Steps p.tables e below (s₁.setTop (mkF m 0 #[.val (.int p0), .val (.int p1), .val (.long p2), .second, .unset, .unset, .unset, .unset, .unset, .unset, .unset, .unset, .unset, .unset, .unset] [])) _
    refine XS.iloadN X0.here hx rfl (hb hby at_0) rfl ?_
    refine XS.iconst X0.here hx rfl (hb hby at_1) ?_
    show Steps p.tables e below (s₁.setTop (mkF m 2 #[.val (.int p0), .val (.int p1), .val (.long p2), .second, .unset, .unset, .unset, .unset, .unset, .unset, .unset, .unset, .unset, .unset, .unset] [(.int 3), (.int p0)])) _
    refine XS.iand X0.here hx rfl (hb hby at_2) rfl ?_
    show Steps p.tables e below (s₁.setTop (mkF m 3 #[.val (.int p0), .val (.int p1), .val (.long p2), .second, .unset, .unset, .unset, .unset, .unset, .unset, .unset, .unset, .unset, .unset, .unset] [(.int (p0 &&& (3 : Int32)))])) _
    rw [f1]
    refine XS.iconst X0.here hx rfl (hb hby at_3) ?_
    show Steps p.tables e below (s₁.setTop (mkF m 4 #[.val (.int p0), .val (.int p1), .val (.long p2), .second, .unset, .unset, .unset, .unset, .unset, .unset, .unset, .unset, .unset, .unset, .unset] [(.int 1), (.int 3)])) _
    refine XS.iadd X0.here hx rfl (hb hby at_4) rfl ?_
    show Steps p.tables e below (s₁.setTop (mkF m 5 #[.val (.int p0), .val (.int p1), .val (.long p2), .second, .unset, .unset, .unset, .unset, .unset, .unset, .unset, .unset, .unset, .unset, .unset] [(.int ((3 : Int32) + (1 : Int32)))])) _
    rw [show ((3 : Int32) + (1 : Int32)) = (4 : Int32) from by decide]
    refine XS.istore X0.here hx rfl (hb hby at_5) rfl (l' := #[.val (.int p0), .val (.int p1), .val (.long p2), .second, .val (.int 4), .unset, .unset, .unset, .unset, .unset, .unset, .unset, .unset, .unset, .unset]) rfl ?_
    show Steps p.tables e below (s₁.setTop (mkF m 7 #[.val (.int p0), .val (.int p1), .val (.long p2), .second, .val (.int 4), .unset, .unset, .unset, .unset, .unset, .unset, .unset, .unset, .unset, .unset] [])) _
    refine st1 _ ?_
    show Steps p.tables e below (T1.setTop (mkF m 20 #[.val (.int p0), .val (.int p1), .val (.long p2), .second, .val (.int 4), .val (.int 1), .unset, .unset, .unset, .unset, .unset, .unset, .unset, .unset, .unset] [])) _
    refine st2 _ ?_
    show Steps p.tables e below (T2.setTop (mkF m 39 #[.val (.int p0), .val (.int p1), .val (.long p2), .second, .val (.int 4), .val (.int 1), .val (.int 0), .unset, .unset, .unset, .unset, .unset, .unset, .unset, .unset] [])) _
    refine st3 _ ?_
    show Steps p.tables e below (T3.setTop (mkF m 58 #[.val (.int p0), .val (.int p1), .val (.long p2), .second, .val (.int 4), .val (.int 1), .val (.int 0), .val (.int 0), .unset, .unset, .unset, .unset, .unset, .unset, .unset] [])) _
    refine st4 _ ?_
    show Steps p.tables e below (T4.setTop (mkF m 78 #[.val (.int p0), .val (.int p1), .val (.long p2), .second, .val (.int 4), .val (.int 1), .val (.int 0), .val (.int 0), .val (.int 0), .unset, .unset, .unset, .unset, .unset, .unset] [])) _
    refine st5 _ ?_
    show Steps p.tables e below (T5.setTop (mkF m 90 #[.val (.int p0), .val (.int p1), .val (.long p2), .second, .val (.int 4), .val (.int 1), .val (.int 0), .val (.int 0), .val (.int 0), .val (.long jam), .second, .val (.long 9223372036854775807), .second, .unset, .unset] [])) _
    refine st6 _ ?_
    show Steps p.tables e below (T6.setTop (mkF m 101 #[.val (.int p0), .val (.int p1), .val (.long p2), .second, .val (.int 4), .val (.int 1), .val (.int 0), .val (.int 0), .val (.int 0), .val (.long jam), .second, .val (.long 9223372036854775807), .second, .val (.ref b285), .unset] [])) _
    refine st7 _ ?_
    show Steps p.tables e below (T7.setTop (mkF m 116 #[.val (.int p0), .val (.int p1), .val (.long p2), .second, .val (.int 4), .val (.int 1), .val (.int 0), .val (.int 0), .val (.int 0), .val (.long jam), .second, .val (.long 9223372036854775807), .second, .val (.ref b285), .unset] [])) _
    refine st10 _ ?_
    show Steps p.tables e below (T10.setTop (mkF m 131 #[.val (.int p0), .val (.int p1), .val (.long p2), .second, .val (.int 4), .val (.int 1), .val (.int 0), .val (.int 0), .val (.int 0), .val (.long jam), .second, .val (.long 9223372036854775807), .second, .val (.ref b285), .unset] [])) _
    refine st11 _ ?_
    show Steps p.tables e below (T11.setTop (mkF m 146 #[.val (.int p0), .val (.int p1), .val (.long p2), .second, .val (.int 4), .val (.int 1), .val (.int 0), .val (.int 0), .val (.int 0), .val (.long jam), .second, .val (.long 9223372036854775807), .second, .val (.ref b285), .unset] [])) _
    refine st12 _ ?_
    show Steps p.tables e below (T12.setTop (mkF m 161 #[.val (.int p0), .val (.int p1), .val (.long p2), .second, .val (.int 4), .val (.int 1), .val (.int 0), .val (.int 0), .val (.int 0), .val (.long jam), .second, .val (.long 9223372036854775807), .second, .val (.ref b285), .unset] [])) _
    refine st13 _ ?_
    show Steps p.tables e below (T13.setTop (mkF m 179 #[.val (.int p0), .val (.int p1), .val (.long p2), .second, .val (.int 4), .val (.int 1), .val (.int 0), .val (.int 0), .val (.int 0), .val (.long jam), .second, .val (.long 9223372036854775807), .second, .val (.ref b285), .val (.int 1)] [])) _
    refine st16 _ ?_
    show Steps p.tables e below (T16.setTop (mkF m 208 #[.val (.int p0), .val (.int p1), .val (.long p2), .second, .val (.int 4), .val (.int 1), .val (.int 0), .val (.int 0), .val (.int 0), .val (.long jam), .second, .val (.long 9223372036854775807), .second, .val (.ref b285), .val (.int 1)] [])) _
    refine st17 _ ?_
    show Steps p.tables e below (T17.setTop (mkF m 237 #[.val (.int p0), .val (.int p1), .val (.long p2), .second, .val (.int 4), .val (.int 1), .val (.int 0), .val (.int 0), .val (.int 0), .val (.long jam), .second, .val (.long 9223372036854775807), .second, .val (.ref b285), .val (.int 1)] [])) _
    refine st18 _ ?_
    refine XS.iload X18.here hx rfl (hb hby at_266) rfl ?_
    show Steps p.tables e below (T18.setTop (mkF m 268 #[.val (.int p0), .val (.int p1), .val (.long p2), .second, .val (.int 4), .val (.int 1), .val (.int 0), .val (.int 0), .val (.int 0), .val (.long jam), .second, .val (.long 9223372036854775807), .second, .val (.ref b285), .val (.int 1)] [(.int 1)])) _
    exact retN X18 hx (t := .boolean) Bd.returns (by simp) (hb hby at_268) hr
  · show QT n0 _ T18.heap _
    rw [e18]
    exact ⟨rfl, N18⟩
set_option maxRecDepth 65536 in
set_option maxHeartbeats 40000000 in
theorem rm0_302 (l : Launch) (Z : State) (a0 : Array Value) (hw : ∀ d ∈ tables_1, d.before a0 Z = true) (ws : List Jvm.Cond) (p0 : Int32) (p1 : Int32) (p2 : Int64) (jam : Int64) (a_cache : Addr) (h0 : Heap) (n0 : Nat) (Z0 : n0 ≤ h0.size) (f1 : (p0 &&& (3 : Int32)) = (3 : Int32)) (f2 : ¬ ((p1 &&& (1 : Int32)) = (0 : Int32))) (f3 : (p1 &&& (2 : Int32)) = (0 : Int32)) (f4 : (p1 &&& (4 : Int32)) = (0 : Int32)) (f5 : ¬ ((p1 &&& (8 : Int32)) = (0 : Int32))) (f6 : (p2 &&& (9223372036854775807 : Int64)) = jam) (f7 : ¬ ((lcmpW jam (0 : Int64)) < (0 : Int32))) (f8 : ¬ ((0 : Int32) < (lcmpW jam (9223372036854775807 : Int64)))) (f9 : ¬ ((lcmpW jam (-128 : Int64)) < (0 : Int32))) (f10 : S_0 Z h0 (.ref a_cache)) (f11 : OwnAll Z h0 a_cache "java/lang/Long") (f12 : E_0 Z h0 a_cache) :
    MetFree l x (head1 (Jvm.Cond.code x code maxLocals ret :: ws) room_1) (fun a U => a = #[(.int p0), (.int p1), (.long p2)] ∧ Z.Warmed39 U.vm ∧ U.heap = h0) (fun _ _ _ _ _ => True) (fun _ U o U' => ∃ v L, o = .returned v ∧ QT n0 v U'.heap L ∧ FrameEnd U o U' L room_1.cells room_1.slots) := by
  refine MetFree.of_bodySF (plainFor_of_name pn_hexwright_engine_SealedBidsHasBidPinLaw) hisR ?_
  intro p e s m args below meth c s₁ Bd hml0 hP hK
  obtain ⟨rfl, hZ, hh⟩ := hP
  have hx := Bd.exec
  have hby := Bd.bytes
  have hml : c.maxLocals = 15 := hml0
  have hown : s.vm.findClass "hexwright/engine/SealedBidsHasBidPinLaw" = some m.cls := findClass_of_methodNamed Bd.named
  have hnm := (name_of_methodNamed Bd.named Bd.method).1
  have X0 : Stand p l e room_1 s m #[(.int p0), (.int p1), (.long p2)] below meth c s₁ [] 0 0 := Stand.of_body Bd
  have e0 : s₁.heap = h0 := by rw [← hh, Bd.state]; rfl
  have N0 := Fr.nil n0
  obtain ⟨T1, L1, X1, e1, N1, st1⟩ := sg7_27 p0 p1 p2 (4 : Int32) X0 hx hZ hw hby hml hown e0 N0 Z0 f2
  obtain ⟨T2, L2, X2, e2, N2, st2⟩ := sg20_194 p0 p1 p2 (1 : Int32) X1 hx hZ hw hby hml hown e1 N1 Z0 f3
  obtain ⟨T3, L3, X3, e3, N3, st3⟩ := sg39_195 p0 p1 p2 (1 : Int32) (0 : Int32) X2 hx hZ hw hby hml hown e2 N2 Z0 f4
  obtain ⟨T4, L4, X4, e4, N4, st4⟩ := sg58_221 p0 p1 p2 (1 : Int32) (0 : Int32) (0 : Int32) X3 hx hZ hw hby hml hown e3 N3 Z0 f5
  obtain ⟨T5, L5, X5, e5, N5, st5⟩ := sg78_5 p0 p1 p2 (4 : Int32) (1 : Int32) (0 : Int32) (0 : Int32) (1 : Int32) jam X4 hx hZ hw hby hml hown e4 N4 Z0 f6
  obtain ⟨T6, h6, L6, b297, b298, kc299, X6, e6, N6, K6, le_b297, le_b298, o6_0, o6_1, o6_2, o6_3, o6_4, st6⟩ := sg90_204 p0 p1 p2 (1 : Int32) (0 : Int32) (0 : Int32) (1 : Int32) jam (9223372036854775807 : Int64) X5 hx hZ hw hby hml hown e5 N5 Z0 
  have sz_b297 : h0.size ≤ b297 := Nat.le_trans (Nat.le_refl _) le_b297
  have g_b297 : n0 ≤ b297 := Nat.le_trans Z0 sz_b297
  have sz_b298 : h0.size ≤ b298 := Nat.le_trans (Nat.le_refl _) le_b298
  have g_b298 : n0 ≤ b298 := Nat.le_trans Z0 sz_b298
  have KK6 : Keep h0 h6 [] := (Keep.refl h0 []).trans K6 (fun x hx => nomatch hx)
  have u8 : S_0 Z h6 (.ref a_cache) := own_sta_keep f10 K6 (fun _ q => nomatch q)
  have u9 : OwnAll Z h6 a_cache "java/lang/Long" := own_all_keep f11 K6 List.not_mem_nil
  obtain ⟨T7, h7, L7, bx300, X7, e7, N7, K7, o7_0, st7⟩ := sg101_292 p0 p1 p2 (4 : Int32) (0 : Int32) (0 : Int32) (1 : Int32) jam b297 b298 kc299 .null .null .null a_cache X6 hx hZ hw hby hml hown e6 N6 (Nat.le_trans Z0 KK6.1) o6_1 o6_2 f7 f8 f9 u8 u9 g_b298 o6_3 o6_0
  have KK7 : Keep h0 h7 [] := KK6.trans K7 (fun x hx => (List.mem_cons.mp hx).elim (fun q => q ▸ (Or.inr sz_b298)) (fun hx => nomatch hx))
  obtain ⟨T10, L10, X10, e10, N10, st10⟩ := sg116_209 p0 p1 p2 (4 : Int32) (1 : Int32) (0 : Int32) (1 : Int32) jam b297 X7 hx hZ hw hby hml hown e7 N7 (Nat.le_trans Z0 KK7.1) 
  obtain ⟨T11, L11, X11, e11, N11, st11⟩ := sg131_210 p0 p1 p2 (4 : Int32) (1 : Int32) (0 : Int32) (1 : Int32) jam b297 X10 hx hZ hw hby hml hown e10 N10 (Nat.le_trans Z0 KK7.1) 
  have u13 : F_0 Z h7 b297 (.ref b298) := Fld.keep o6_1 K7 (own_notin o6_4 List.not_mem_nil)
  have u14 : S_0 Z h7 (.ref a_cache) := own_sta_keep u8 K7 (own_ns (Arv.nostat o6_2) (fun _ q => nomatch q))
  have ne15 : a_cache ≠ b298 := Nat.ne_of_lt (Nat.lt_of_lt_of_le (Exa.lt f12) le_b298)
  have u16 : OwnAll Z h7 a_cache "java/lang/Long" := own_all_keep u9 K7 (own_notin ne15 List.not_mem_nil)
  have u17 : E_1 Z h7 b297 := Exa.keep o6_0 K7
  obtain ⟨T12, h12, L12, bx301, X12, e12, N12, K12, o12_0, st12⟩ := sg146_229 p0 p1 p2 (4 : Int32) (1 : Int32) (0 : Int32) (0 : Int32) jam b297 b298 kc299 (.ref bx300) .null .null a_cache X11 hx hZ hw hby hml hown e11 N11 (Nat.le_trans Z0 KK7.1) u13 o7_0 f7 f8 f9 u14 u16 g_b298 o6_3 u17
  have KK12 : Keep h0 h12 [] := KK7.trans K12 (fun x hx => (List.mem_cons.mp hx).elim (fun q => q ▸ (Or.inr sz_b298)) (fun hx => nomatch hx))
  have u19 : F_0 Z h12 b297 (.ref b298) := Fld.keep u13 K12 (own_notin o6_4 List.not_mem_nil)
  have u20 : E_1 Z h12 b297 := Exa.keep u17 K12
  obtain ⟨T18, L18, X18, e18, N18, st18⟩ := sg161_295 p0 p1 p2 (4 : Int32) (0 : Int32) (0 : Int32) (1 : Int32) jam (9223372036854775807 : Int64) b297 b298 kc299 bx300 .null .null (.ref bx301) X12 hx hZ hw hby hml hown e12 N12 (Nat.le_trans Z0 KK12.1) u19 o12_0 u20
  obtain ⟨T21, L21, X21, e21, N21, st21⟩ := sg179_215 p0 p1 p2 (1 : Int32) (0 : Int32) (1 : Int32) jam (9223372036854775807 : Int64) b297 b298 kc299 (.ref bx300) .null (.ref bx301) X18 hx hZ hw hby hml hown e18 N18 (Nat.le_trans Z0 KK12.1) u19 o12_0 u20
  obtain ⟨T22, L22, X22, e22, N22, st22⟩ := sg208_217 p0 p1 p2 (1 : Int32) (0 : Int32) (1 : Int32) jam (9223372036854775807 : Int64) b297 b298 kc299 (.ref bx300) .null (.ref bx301) X21 hx hZ hw hby hml hown e21 N21 (Nat.le_trans Z0 KK12.1) u19 o12_0 u20
  obtain ⟨T23, L23, X23, e23, N23, st23⟩ := sg237_232 p0 p1 p2 (1 : Int32) (0 : Int32) (0 : Int32) jam (9223372036854775807 : Int64) b297 b298 kc299 (.ref bx300) .null .null bx301 X22 hx hZ hw hby hml hown e22 N22 (Nat.le_trans Z0 KK12.1) u19 o12_0 u20
  obtain ⟨fs, hr, hrun, hended, hW, hsame⟩ := X23.leave (v := (some (.int 1))) (fun h => by rw [Bd.returns] at h; cases h)
  refine ⟨_, _, castTop (ef0_IIJ m p0 p1 p2) ?_, hrun, hended, _, _, rfl, ?_, ⟨_, rfl⟩, hW, hsame.mono (by decide) (by decide)⟩
  · show Steps p.tables e below (s₁.setTop (mkF m 0 #[.val (.int p0), .val (.int p1), .val (.long p2), .second, .unset, .unset, .unset, .unset, .unset, .unset, .unset, .unset, .unset, .unset, .unset] [])) _
    refine XS.iloadN X0.here hx rfl (hb hby at_0) rfl ?_
    refine XS.iconst X0.here hx rfl (hb hby at_1) ?_
    show Steps p.tables e below (s₁.setTop (mkF m 2 #[.val (.int p0), .val (.int p1), .val (.long p2), .second, .unset, .unset, .unset, .unset, .unset, .unset, .unset, .unset, .unset, .unset, .unset] [(.int 3), (.int p0)])) _
    refine XS.iand X0.here hx rfl (hb hby at_2) rfl ?_
    show Steps p.tables e below (s₁.setTop (mkF m 3 #[.val (.int p0), .val (.int p1), .val (.long p2), .second, .unset, .unset, .unset, .unset, .unset, .unset, .unset, .unset, .unset, .unset, .unset] [(.int (p0 &&& (3 : Int32)))])) _
    rw [f1]
    refine XS.iconst X0.here hx rfl (hb hby at_3) ?_
    show Steps p.tables e below (s₁.setTop (mkF m 4 #[.val (.int p0), .val (.int p1), .val (.long p2), .second, .unset, .unset, .unset, .unset, .unset, .unset, .unset, .unset, .unset, .unset, .unset] [(.int 1), (.int 3)])) _
    refine XS.iadd X0.here hx rfl (hb hby at_4) rfl ?_
    show Steps p.tables e below (s₁.setTop (mkF m 5 #[.val (.int p0), .val (.int p1), .val (.long p2), .second, .unset, .unset, .unset, .unset, .unset, .unset, .unset, .unset, .unset, .unset, .unset] [(.int ((3 : Int32) + (1 : Int32)))])) _
    rw [show ((3 : Int32) + (1 : Int32)) = (4 : Int32) from by decide]
    refine XS.istore X0.here hx rfl (hb hby at_5) rfl (l' := #[.val (.int p0), .val (.int p1), .val (.long p2), .second, .val (.int 4), .unset, .unset, .unset, .unset, .unset, .unset, .unset, .unset, .unset, .unset]) rfl ?_
    show Steps p.tables e below (s₁.setTop (mkF m 7 #[.val (.int p0), .val (.int p1), .val (.long p2), .second, .val (.int 4), .unset, .unset, .unset, .unset, .unset, .unset, .unset, .unset, .unset, .unset] [])) _
    refine st1 _ ?_
    show Steps p.tables e below (T1.setTop (mkF m 20 #[.val (.int p0), .val (.int p1), .val (.long p2), .second, .val (.int 4), .val (.int 1), .unset, .unset, .unset, .unset, .unset, .unset, .unset, .unset, .unset] [])) _
    refine st2 _ ?_
    show Steps p.tables e below (T2.setTop (mkF m 39 #[.val (.int p0), .val (.int p1), .val (.long p2), .second, .val (.int 4), .val (.int 1), .val (.int 0), .unset, .unset, .unset, .unset, .unset, .unset, .unset, .unset] [])) _
    refine st3 _ ?_
    show Steps p.tables e below (T3.setTop (mkF m 58 #[.val (.int p0), .val (.int p1), .val (.long p2), .second, .val (.int 4), .val (.int 1), .val (.int 0), .val (.int 0), .unset, .unset, .unset, .unset, .unset, .unset, .unset] [])) _
    refine st4 _ ?_
    show Steps p.tables e below (T4.setTop (mkF m 78 #[.val (.int p0), .val (.int p1), .val (.long p2), .second, .val (.int 4), .val (.int 1), .val (.int 0), .val (.int 0), .val (.int 1), .unset, .unset, .unset, .unset, .unset, .unset] [])) _
    refine st5 _ ?_
    show Steps p.tables e below (T5.setTop (mkF m 90 #[.val (.int p0), .val (.int p1), .val (.long p2), .second, .val (.int 4), .val (.int 1), .val (.int 0), .val (.int 0), .val (.int 1), .val (.long jam), .second, .val (.long 9223372036854775807), .second, .unset, .unset] [])) _
    refine st6 _ ?_
    show Steps p.tables e below (T6.setTop (mkF m 101 #[.val (.int p0), .val (.int p1), .val (.long p2), .second, .val (.int 4), .val (.int 1), .val (.int 0), .val (.int 0), .val (.int 1), .val (.long jam), .second, .val (.long 9223372036854775807), .second, .val (.ref b297), .unset] [])) _
    refine st7 _ ?_
    show Steps p.tables e below (T7.setTop (mkF m 116 #[.val (.int p0), .val (.int p1), .val (.long p2), .second, .val (.int 4), .val (.int 1), .val (.int 0), .val (.int 0), .val (.int 1), .val (.long jam), .second, .val (.long 9223372036854775807), .second, .val (.ref b297), .unset] [])) _
    refine st10 _ ?_
    show Steps p.tables e below (T10.setTop (mkF m 131 #[.val (.int p0), .val (.int p1), .val (.long p2), .second, .val (.int 4), .val (.int 1), .val (.int 0), .val (.int 0), .val (.int 1), .val (.long jam), .second, .val (.long 9223372036854775807), .second, .val (.ref b297), .unset] [])) _
    refine st11 _ ?_
    show Steps p.tables e below (T11.setTop (mkF m 146 #[.val (.int p0), .val (.int p1), .val (.long p2), .second, .val (.int 4), .val (.int 1), .val (.int 0), .val (.int 0), .val (.int 1), .val (.long jam), .second, .val (.long 9223372036854775807), .second, .val (.ref b297), .unset] [])) _
    refine st12 _ ?_
    show Steps p.tables e below (T12.setTop (mkF m 161 #[.val (.int p0), .val (.int p1), .val (.long p2), .second, .val (.int 4), .val (.int 1), .val (.int 0), .val (.int 0), .val (.int 1), .val (.long jam), .second, .val (.long 9223372036854775807), .second, .val (.ref b297), .unset] [])) _
    refine st18 _ ?_
    show Steps p.tables e below (T18.setTop (mkF m 179 #[.val (.int p0), .val (.int p1), .val (.long p2), .second, .val (.int 4), .val (.int 1), .val (.int 0), .val (.int 0), .val (.int 1), .val (.long jam), .second, .val (.long 9223372036854775807), .second, .val (.ref b297), .val (.int 1)] [])) _
    refine st21 _ ?_
    show Steps p.tables e below (T21.setTop (mkF m 208 #[.val (.int p0), .val (.int p1), .val (.long p2), .second, .val (.int 4), .val (.int 1), .val (.int 0), .val (.int 0), .val (.int 1), .val (.long jam), .second, .val (.long 9223372036854775807), .second, .val (.ref b297), .val (.int 1)] [])) _
    refine st22 _ ?_
    show Steps p.tables e below (T22.setTop (mkF m 237 #[.val (.int p0), .val (.int p1), .val (.long p2), .second, .val (.int 4), .val (.int 1), .val (.int 0), .val (.int 0), .val (.int 1), .val (.long jam), .second, .val (.long 9223372036854775807), .second, .val (.ref b297), .val (.int 1)] [])) _
    refine st23 _ ?_
    refine XS.iload X23.here hx rfl (hb hby at_266) rfl ?_
    show Steps p.tables e below (T23.setTop (mkF m 268 #[.val (.int p0), .val (.int p1), .val (.long p2), .second, .val (.int 4), .val (.int 1), .val (.int 0), .val (.int 0), .val (.int 1), .val (.long jam), .second, .val (.long 9223372036854775807), .second, .val (.ref b297), .val (.int 1)] [(.int 1)])) _
    exact retN X23 hx (t := .boolean) Bd.returns (by simp) (hb hby at_268) hr
  · show QT n0 _ T23.heap _
    rw [e23]
    exact ⟨rfl, N23⟩
set_option maxRecDepth 65536 in
set_option maxHeartbeats 40000000 in
theorem rm0_308 (l : Launch) (Z : State) (a0 : Array Value) (hw : ∀ d ∈ tables_1, d.before a0 Z = true) (ws : List Jvm.Cond) (p0 : Int32) (p1 : Int32) (p2 : Int64) (jam : Int64) (a_cache : Addr) (h0 : Heap) (n0 : Nat) (Z0 : n0 ≤ h0.size) (f1 : (p0 &&& (3 : Int32)) = (3 : Int32)) (f2 : ¬ ((p1 &&& (1 : Int32)) = (0 : Int32))) (f3 : (p1 &&& (2 : Int32)) = (0 : Int32)) (f4 : ¬ ((p1 &&& (4 : Int32)) = (0 : Int32))) (f5 : (p1 &&& (8 : Int32)) = (0 : Int32)) (f6 : (p2 &&& (9223372036854775807 : Int64)) = jam) (f7 : ¬ ((lcmpW jam (0 : Int64)) < (0 : Int32))) (f8 : ¬ ((0 : Int32) < (lcmpW jam (9223372036854775807 : Int64)))) (f9 : ¬ ((lcmpW jam (-128 : Int64)) < (0 : Int32))) (f10 : S_0 Z h0 (.ref a_cache)) (f11 : OwnAll Z h0 a_cache "java/lang/Long") (f12 : E_0 Z h0 a_cache) :
    MetFree l x (head1 (Jvm.Cond.code x code maxLocals ret :: ws) room_1) (fun a U => a = #[(.int p0), (.int p1), (.long p2)] ∧ Z.Warmed39 U.vm ∧ U.heap = h0) (fun _ _ _ _ _ => True) (fun _ U o U' => ∃ v L, o = .returned v ∧ QT n0 v U'.heap L ∧ FrameEnd U o U' L room_1.cells room_1.slots) := by
  refine MetFree.of_bodySF (plainFor_of_name pn_hexwright_engine_SealedBidsHasBidPinLaw) hisR ?_
  intro p e s m args below meth c s₁ Bd hml0 hP hK
  obtain ⟨rfl, hZ, hh⟩ := hP
  have hx := Bd.exec
  have hby := Bd.bytes
  have hml : c.maxLocals = 15 := hml0
  have hown : s.vm.findClass "hexwright/engine/SealedBidsHasBidPinLaw" = some m.cls := findClass_of_methodNamed Bd.named
  have hnm := (name_of_methodNamed Bd.named Bd.method).1
  have X0 : Stand p l e room_1 s m #[(.int p0), (.int p1), (.long p2)] below meth c s₁ [] 0 0 := Stand.of_body Bd
  have e0 : s₁.heap = h0 := by rw [← hh, Bd.state]; rfl
  have N0 := Fr.nil n0
  obtain ⟨T1, L1, X1, e1, N1, st1⟩ := sg7_27 p0 p1 p2 (4 : Int32) X0 hx hZ hw hby hml hown e0 N0 Z0 f2
  obtain ⟨T2, L2, X2, e2, N2, st2⟩ := sg20_194 p0 p1 p2 (1 : Int32) X1 hx hZ hw hby hml hown e1 N1 Z0 f3
  obtain ⟨T3, L3, X3, e3, N3, st3⟩ := sg39_234 p0 p1 p2 (1 : Int32) (0 : Int32) X2 hx hZ hw hby hml hown e2 N2 Z0 f4
  obtain ⟨T4, L4, X4, e4, N4, st4⟩ := sg58_196 p0 p1 p2 (1 : Int32) (0 : Int32) (1 : Int32) X3 hx hZ hw hby hml hown e3 N3 Z0 f5
  obtain ⟨T5, L5, X5, e5, N5, st5⟩ := sg78_5 p0 p1 p2 (4 : Int32) (1 : Int32) (0 : Int32) (1 : Int32) (0 : Int32) jam X4 hx hZ hw hby hml hown e4 N4 Z0 f6
  obtain ⟨T6, h6, L6, b303, b304, kc305, X6, e6, N6, K6, le_b303, le_b304, o6_0, o6_1, o6_2, o6_3, o6_4, st6⟩ := sg90_204 p0 p1 p2 (1 : Int32) (0 : Int32) (1 : Int32) (0 : Int32) jam (9223372036854775807 : Int64) X5 hx hZ hw hby hml hown e5 N5 Z0 
  have sz_b303 : h0.size ≤ b303 := Nat.le_trans (Nat.le_refl _) le_b303
  have g_b303 : n0 ≤ b303 := Nat.le_trans Z0 sz_b303
  have sz_b304 : h0.size ≤ b304 := Nat.le_trans (Nat.le_refl _) le_b304
  have g_b304 : n0 ≤ b304 := Nat.le_trans Z0 sz_b304
  have KK6 : Keep h0 h6 [] := (Keep.refl h0 []).trans K6 (fun x hx => nomatch hx)
  have u8 : S_0 Z h6 (.ref a_cache) := own_sta_keep f10 K6 (fun _ q => nomatch q)
  have u9 : OwnAll Z h6 a_cache "java/lang/Long" := own_all_keep f11 K6 List.not_mem_nil
  obtain ⟨T7, h7, L7, bx306, X7, e7, N7, K7, o7_0, st7⟩ := sg101_292 p0 p1 p2 (4 : Int32) (0 : Int32) (1 : Int32) (0 : Int32) jam b303 b304 kc305 .null .null .null a_cache X6 hx hZ hw hby hml hown e6 N6 (Nat.le_trans Z0 KK6.1) o6_1 o6_2 f7 f8 f9 u8 u9 g_b304 o6_3 o6_0
  have KK7 : Keep h0 h7 [] := KK6.trans K7 (fun x hx => (List.mem_cons.mp hx).elim (fun q => q ▸ (Or.inr sz_b304)) (fun hx => nomatch hx))
  obtain ⟨T10, L10, X10, e10, N10, st10⟩ := sg116_209 p0 p1 p2 (4 : Int32) (1 : Int32) (1 : Int32) (0 : Int32) jam b303 X7 hx hZ hw hby hml hown e7 N7 (Nat.le_trans Z0 KK7.1) 
  have u12 : F_0 Z h7 b303 (.ref b304) := Fld.keep o6_1 K7 (own_notin o6_4 List.not_mem_nil)
  have u13 : S_0 Z h7 (.ref a_cache) := own_sta_keep u8 K7 (own_ns (Arv.nostat o6_2) (fun _ q => nomatch q))
  have ne14 : a_cache ≠ b304 := Nat.ne_of_lt (Nat.lt_of_lt_of_le (Exa.lt f12) le_b304)
  have u15 : OwnAll Z h7 a_cache "java/lang/Long" := own_all_keep u9 K7 (own_notin ne14 List.not_mem_nil)
  have u16 : E_1 Z h7 b303 := Exa.keep o6_0 K7
  obtain ⟨T11, h11, L11, bx307, X11, e11, N11, K11, o11_0, st11⟩ := sg131_242 p0 p1 p2 (4 : Int32) (1 : Int32) (0 : Int32) (0 : Int32) jam b303 b304 kc305 (.ref bx306) .null .null a_cache X10 hx hZ hw hby hml hown e10 N10 (Nat.le_trans Z0 KK7.1) u12 o7_0 f7 f8 f9 u13 u15 g_b304 o6_3 u16
  have KK11 : Keep h0 h11 [] := KK7.trans K11 (fun x hx => (List.mem_cons.mp hx).elim (fun q => q ▸ (Or.inr sz_b304)) (fun hx => nomatch hx))
  obtain ⟨T17, L17, X17, e17, N17, st17⟩ := sg146_211 p0 p1 p2 (4 : Int32) (1 : Int32) (0 : Int32) (1 : Int32) jam b303 X11 hx hZ hw hby hml hown e11 N11 (Nat.le_trans Z0 KK11.1) 
  have u19 : F_0 Z h11 b303 (.ref b304) := Fld.keep u12 K11 (own_notin o6_4 List.not_mem_nil)
  have u20 : E_1 Z h11 b303 := Exa.keep u16 K11
  obtain ⟨T18, L18, X18, e18, N18, st18⟩ := sg161_295 p0 p1 p2 (4 : Int32) (0 : Int32) (1 : Int32) (0 : Int32) jam (9223372036854775807 : Int64) b303 b304 kc305 bx306 .null (.ref bx307) .null X17 hx hZ hw hby hml hown e17 N17 (Nat.le_trans Z0 KK11.1) u19 o11_0 u20
  obtain ⟨T21, L21, X21, e21, N21, st21⟩ := sg179_215 p0 p1 p2 (1 : Int32) (1 : Int32) (0 : Int32) jam (9223372036854775807 : Int64) b303 b304 kc305 (.ref bx306) (.ref bx307) .null X18 hx hZ hw hby hml hown e18 N18 (Nat.le_trans Z0 KK11.1) u19 o11_0 u20
  obtain ⟨T22, L22, X22, e22, N22, st22⟩ := sg208_245 p0 p1 p2 (1 : Int32) (0 : Int32) (0 : Int32) jam (9223372036854775807 : Int64) b303 b304 kc305 (.ref bx306) .null bx307 .null X21 hx hZ hw hby hml hown e21 N21 (Nat.le_trans Z0 KK11.1) u19 o11_0 u20
  obtain ⟨T23, L23, X23, e23, N23, st23⟩ := sg237_219 p0 p1 p2 (1 : Int32) (0 : Int32) (1 : Int32) jam (9223372036854775807 : Int64) b303 b304 kc305 (.ref bx306) .null (.ref bx307) X22 hx hZ hw hby hml hown e22 N22 (Nat.le_trans Z0 KK11.1) u19 o11_0 u20
  obtain ⟨fs, hr, hrun, hended, hW, hsame⟩ := X23.leave (v := (some (.int 1))) (fun h => by rw [Bd.returns] at h; cases h)
  refine ⟨_, _, castTop (ef0_IIJ m p0 p1 p2) ?_, hrun, hended, _, _, rfl, ?_, ⟨_, rfl⟩, hW, hsame.mono (by decide) (by decide)⟩
  · show Steps p.tables e below (s₁.setTop (mkF m 0 #[.val (.int p0), .val (.int p1), .val (.long p2), .second, .unset, .unset, .unset, .unset, .unset, .unset, .unset, .unset, .unset, .unset, .unset] [])) _
    refine XS.iloadN X0.here hx rfl (hb hby at_0) rfl ?_
    refine XS.iconst X0.here hx rfl (hb hby at_1) ?_
    show Steps p.tables e below (s₁.setTop (mkF m 2 #[.val (.int p0), .val (.int p1), .val (.long p2), .second, .unset, .unset, .unset, .unset, .unset, .unset, .unset, .unset, .unset, .unset, .unset] [(.int 3), (.int p0)])) _
    refine XS.iand X0.here hx rfl (hb hby at_2) rfl ?_
    show Steps p.tables e below (s₁.setTop (mkF m 3 #[.val (.int p0), .val (.int p1), .val (.long p2), .second, .unset, .unset, .unset, .unset, .unset, .unset, .unset, .unset, .unset, .unset, .unset] [(.int (p0 &&& (3 : Int32)))])) _
    rw [f1]
    refine XS.iconst X0.here hx rfl (hb hby at_3) ?_
    show Steps p.tables e below (s₁.setTop (mkF m 4 #[.val (.int p0), .val (.int p1), .val (.long p2), .second, .unset, .unset, .unset, .unset, .unset, .unset, .unset, .unset, .unset, .unset, .unset] [(.int 1), (.int 3)])) _
    refine XS.iadd X0.here hx rfl (hb hby at_4) rfl ?_
    show Steps p.tables e below (s₁.setTop (mkF m 5 #[.val (.int p0), .val (.int p1), .val (.long p2), .second, .unset, .unset, .unset, .unset, .unset, .unset, .unset, .unset, .unset, .unset, .unset] [(.int ((3 : Int32) + (1 : Int32)))])) _
    rw [show ((3 : Int32) + (1 : Int32)) = (4 : Int32) from by decide]
    refine XS.istore X0.here hx rfl (hb hby at_5) rfl (l' := #[.val (.int p0), .val (.int p1), .val (.long p2), .second, .val (.int 4), .unset, .unset, .unset, .unset, .unset, .unset, .unset, .unset, .unset, .unset]) rfl ?_
    show Steps p.tables e below (s₁.setTop (mkF m 7 #[.val (.int p0), .val (.int p1), .val (.long p2), .second, .val (.int 4), .unset, .unset, .unset, .unset, .unset, .unset, .unset, .unset, .unset, .unset] [])) _
    refine st1 _ ?_
    show Steps p.tables e below (T1.setTop (mkF m 20 #[.val (.int p0), .val (.int p1), .val (.long p2), .second, .val (.int 4), .val (.int 1), .unset, .unset, .unset, .unset, .unset, .unset, .unset, .unset, .unset] [])) _
    refine st2 _ ?_
    show Steps p.tables e below (T2.setTop (mkF m 39 #[.val (.int p0), .val (.int p1), .val (.long p2), .second, .val (.int 4), .val (.int 1), .val (.int 0), .unset, .unset, .unset, .unset, .unset, .unset, .unset, .unset] [])) _
    refine st3 _ ?_
    show Steps p.tables e below (T3.setTop (mkF m 58 #[.val (.int p0), .val (.int p1), .val (.long p2), .second, .val (.int 4), .val (.int 1), .val (.int 0), .val (.int 1), .unset, .unset, .unset, .unset, .unset, .unset, .unset] [])) _
    refine st4 _ ?_
    show Steps p.tables e below (T4.setTop (mkF m 78 #[.val (.int p0), .val (.int p1), .val (.long p2), .second, .val (.int 4), .val (.int 1), .val (.int 0), .val (.int 1), .val (.int 0), .unset, .unset, .unset, .unset, .unset, .unset] [])) _
    refine st5 _ ?_
    show Steps p.tables e below (T5.setTop (mkF m 90 #[.val (.int p0), .val (.int p1), .val (.long p2), .second, .val (.int 4), .val (.int 1), .val (.int 0), .val (.int 1), .val (.int 0), .val (.long jam), .second, .val (.long 9223372036854775807), .second, .unset, .unset] [])) _
    refine st6 _ ?_
    show Steps p.tables e below (T6.setTop (mkF m 101 #[.val (.int p0), .val (.int p1), .val (.long p2), .second, .val (.int 4), .val (.int 1), .val (.int 0), .val (.int 1), .val (.int 0), .val (.long jam), .second, .val (.long 9223372036854775807), .second, .val (.ref b303), .unset] [])) _
    refine st7 _ ?_
    show Steps p.tables e below (T7.setTop (mkF m 116 #[.val (.int p0), .val (.int p1), .val (.long p2), .second, .val (.int 4), .val (.int 1), .val (.int 0), .val (.int 1), .val (.int 0), .val (.long jam), .second, .val (.long 9223372036854775807), .second, .val (.ref b303), .unset] [])) _
    refine st10 _ ?_
    show Steps p.tables e below (T10.setTop (mkF m 131 #[.val (.int p0), .val (.int p1), .val (.long p2), .second, .val (.int 4), .val (.int 1), .val (.int 0), .val (.int 1), .val (.int 0), .val (.long jam), .second, .val (.long 9223372036854775807), .second, .val (.ref b303), .unset] [])) _
    refine st11 _ ?_
    show Steps p.tables e below (T11.setTop (mkF m 146 #[.val (.int p0), .val (.int p1), .val (.long p2), .second, .val (.int 4), .val (.int 1), .val (.int 0), .val (.int 1), .val (.int 0), .val (.long jam), .second, .val (.long 9223372036854775807), .second, .val (.ref b303), .unset] [])) _
    refine st17 _ ?_
    show Steps p.tables e below (T17.setTop (mkF m 161 #[.val (.int p0), .val (.int p1), .val (.long p2), .second, .val (.int 4), .val (.int 1), .val (.int 0), .val (.int 1), .val (.int 0), .val (.long jam), .second, .val (.long 9223372036854775807), .second, .val (.ref b303), .unset] [])) _
    refine st18 _ ?_
    show Steps p.tables e below (T18.setTop (mkF m 179 #[.val (.int p0), .val (.int p1), .val (.long p2), .second, .val (.int 4), .val (.int 1), .val (.int 0), .val (.int 1), .val (.int 0), .val (.long jam), .second, .val (.long 9223372036854775807), .second, .val (.ref b303), .val (.int 1)] [])) _
    refine st21 _ ?_
    show Steps p.tables e below (T21.setTop (mkF m 208 #[.val (.int p0), .val (.int p1), .val (.long p2), .second, .val (.int 4), .val (.int 1), .val (.int 0), .val (.int 1), .val (.int 0), .val (.long jam), .second, .val (.long 9223372036854775807), .second, .val (.ref b303), .val (.int 1)] [])) _
    refine st22 _ ?_
    show Steps p.tables e below (T22.setTop (mkF m 237 #[.val (.int p0), .val (.int p1), .val (.long p2), .second, .val (.int 4), .val (.int 1), .val (.int 0), .val (.int 1), .val (.int 0), .val (.long jam), .second, .val (.long 9223372036854775807), .second, .val (.ref b303), .val (.int 1)] [])) _
    refine st23 _ ?_
    refine XS.iload X23.here hx rfl (hb hby at_266) rfl ?_
    show Steps p.tables e below (T23.setTop (mkF m 268 #[.val (.int p0), .val (.int p1), .val (.long p2), .second, .val (.int 4), .val (.int 1), .val (.int 0), .val (.int 1), .val (.int 0), .val (.long jam), .second, .val (.long 9223372036854775807), .second, .val (.ref b303), .val (.int 1)] [(.int 1)])) _
    exact retN X23 hx (t := .boolean) Bd.returns (by simp) (hb hby at_268) hr
  · show QT n0 _ T23.heap _
    rw [e23]
    exact ⟨rfl, N23⟩
set_option maxRecDepth 65536 in
set_option maxHeartbeats 40000000 in
theorem rm0_315 (l : Launch) (Z : State) (a0 : Array Value) (hw : ∀ d ∈ tables_1, d.before a0 Z = true) (ws : List Jvm.Cond) (p0 : Int32) (p1 : Int32) (p2 : Int64) (jam : Int64) (a_cache : Addr) (h0 : Heap) (n0 : Nat) (Z0 : n0 ≤ h0.size) (f1 : (p0 &&& (3 : Int32)) = (3 : Int32)) (f2 : ¬ ((p1 &&& (1 : Int32)) = (0 : Int32))) (f3 : (p1 &&& (2 : Int32)) = (0 : Int32)) (f4 : ¬ ((p1 &&& (4 : Int32)) = (0 : Int32))) (f5 : ¬ ((p1 &&& (8 : Int32)) = (0 : Int32))) (f6 : (p2 &&& (9223372036854775807 : Int64)) = jam) (f7 : ¬ ((lcmpW jam (0 : Int64)) < (0 : Int32))) (f8 : ¬ ((0 : Int32) < (lcmpW jam (9223372036854775807 : Int64)))) (f9 : ¬ ((lcmpW jam (-128 : Int64)) < (0 : Int32))) (f10 : S_0 Z h0 (.ref a_cache)) (f11 : OwnAll Z h0 a_cache "java/lang/Long") (f12 : E_0 Z h0 a_cache) :
    MetFree l x (head1 (Jvm.Cond.code x code maxLocals ret :: ws) room_1) (fun a U => a = #[(.int p0), (.int p1), (.long p2)] ∧ Z.Warmed39 U.vm ∧ U.heap = h0) (fun _ _ _ _ _ => True) (fun _ U o U' => ∃ v L, o = .returned v ∧ QT n0 v U'.heap L ∧ FrameEnd U o U' L room_1.cells room_1.slots) := by
  refine MetFree.of_bodySF (plainFor_of_name pn_hexwright_engine_SealedBidsHasBidPinLaw) hisR ?_
  intro p e s m args below meth c s₁ Bd hml0 hP hK
  obtain ⟨rfl, hZ, hh⟩ := hP
  have hx := Bd.exec
  have hby := Bd.bytes
  have hml : c.maxLocals = 15 := hml0
  have hown : s.vm.findClass "hexwright/engine/SealedBidsHasBidPinLaw" = some m.cls := findClass_of_methodNamed Bd.named
  have hnm := (name_of_methodNamed Bd.named Bd.method).1
  have X0 : Stand p l e room_1 s m #[(.int p0), (.int p1), (.long p2)] below meth c s₁ [] 0 0 := Stand.of_body Bd
  have e0 : s₁.heap = h0 := by rw [← hh, Bd.state]; rfl
  have N0 := Fr.nil n0
  obtain ⟨T1, L1, X1, e1, N1, st1⟩ := sg7_27 p0 p1 p2 (4 : Int32) X0 hx hZ hw hby hml hown e0 N0 Z0 f2
  obtain ⟨T2, L2, X2, e2, N2, st2⟩ := sg20_194 p0 p1 p2 (1 : Int32) X1 hx hZ hw hby hml hown e1 N1 Z0 f3
  obtain ⟨T3, L3, X3, e3, N3, st3⟩ := sg39_234 p0 p1 p2 (1 : Int32) (0 : Int32) X2 hx hZ hw hby hml hown e2 N2 Z0 f4
  obtain ⟨T4, L4, X4, e4, N4, st4⟩ := sg58_221 p0 p1 p2 (1 : Int32) (0 : Int32) (1 : Int32) X3 hx hZ hw hby hml hown e3 N3 Z0 f5
  obtain ⟨T5, L5, X5, e5, N5, st5⟩ := sg78_5 p0 p1 p2 (4 : Int32) (1 : Int32) (0 : Int32) (1 : Int32) (1 : Int32) jam X4 hx hZ hw hby hml hown e4 N4 Z0 f6
  obtain ⟨T6, h6, L6, b309, b310, kc311, X6, e6, N6, K6, le_b309, le_b310, o6_0, o6_1, o6_2, o6_3, o6_4, st6⟩ := sg90_204 p0 p1 p2 (1 : Int32) (0 : Int32) (1 : Int32) (1 : Int32) jam (9223372036854775807 : Int64) X5 hx hZ hw hby hml hown e5 N5 Z0 
  have sz_b309 : h0.size ≤ b309 := Nat.le_trans (Nat.le_refl _) le_b309
  have g_b309 : n0 ≤ b309 := Nat.le_trans Z0 sz_b309
  have sz_b310 : h0.size ≤ b310 := Nat.le_trans (Nat.le_refl _) le_b310
  have g_b310 : n0 ≤ b310 := Nat.le_trans Z0 sz_b310
  have KK6 : Keep h0 h6 [] := (Keep.refl h0 []).trans K6 (fun x hx => nomatch hx)
  have u8 : S_0 Z h6 (.ref a_cache) := own_sta_keep f10 K6 (fun _ q => nomatch q)
  have u9 : OwnAll Z h6 a_cache "java/lang/Long" := own_all_keep f11 K6 List.not_mem_nil
  obtain ⟨T7, h7, L7, bx312, X7, e7, N7, K7, o7_0, st7⟩ := sg101_292 p0 p1 p2 (4 : Int32) (0 : Int32) (1 : Int32) (1 : Int32) jam b309 b310 kc311 .null .null .null a_cache X6 hx hZ hw hby hml hown e6 N6 (Nat.le_trans Z0 KK6.1) o6_1 o6_2 f7 f8 f9 u8 u9 g_b310 o6_3 o6_0
  have KK7 : Keep h0 h7 [] := KK6.trans K7 (fun x hx => (List.mem_cons.mp hx).elim (fun q => q ▸ (Or.inr sz_b310)) (fun hx => nomatch hx))
  obtain ⟨T10, L10, X10, e10, N10, st10⟩ := sg116_209 p0 p1 p2 (4 : Int32) (1 : Int32) (1 : Int32) (1 : Int32) jam b309 X7 hx hZ hw hby hml hown e7 N7 (Nat.le_trans Z0 KK7.1) 
  have u12 : F_0 Z h7 b309 (.ref b310) := Fld.keep o6_1 K7 (own_notin o6_4 List.not_mem_nil)
  have u13 : S_0 Z h7 (.ref a_cache) := own_sta_keep u8 K7 (own_ns (Arv.nostat o6_2) (fun _ q => nomatch q))
  have ne14 : a_cache ≠ b310 := Nat.ne_of_lt (Nat.lt_of_lt_of_le (Exa.lt f12) le_b310)
  have u15 : OwnAll Z h7 a_cache "java/lang/Long" := own_all_keep u9 K7 (own_notin ne14 List.not_mem_nil)
  have u16 : E_1 Z h7 b309 := Exa.keep o6_0 K7
  obtain ⟨T11, h11, L11, bx313, X11, e11, N11, K11, o11_0, st11⟩ := sg131_242 p0 p1 p2 (4 : Int32) (1 : Int32) (0 : Int32) (1 : Int32) jam b309 b310 kc311 (.ref bx312) .null .null a_cache X10 hx hZ hw hby hml hown e10 N10 (Nat.le_trans Z0 KK7.1) u12 o7_0 f7 f8 f9 u13 u15 g_b310 o6_3 u16
  have KK11 : Keep h0 h11 [] := KK7.trans K11 (fun x hx => (List.mem_cons.mp hx).elim (fun q => q ▸ (Or.inr sz_b310)) (fun hx => nomatch hx))
  have u18 : F_0 Z h11 b309 (.ref b310) := Fld.keep u12 K11 (own_notin o6_4 List.not_mem_nil)
  have u19 : S_0 Z h11 (.ref a_cache) := own_sta_keep u13 K11 (own_ns (Arv.nostat o7_0) (fun _ q => nomatch q))
  have u20 : OwnAll Z h11 a_cache "java/lang/Long" := own_all_keep u15 K11 (own_notin ne14 List.not_mem_nil)
  have u21 : E_1 Z h11 b309 := Exa.keep u16 K11
  obtain ⟨T17, h17, L17, bx314, X17, e17, N17, K17, o17_0, st17⟩ := sg146_229 p0 p1 p2 (4 : Int32) (1 : Int32) (0 : Int32) (1 : Int32) jam b309 b310 kc311 (.ref bx312) .null (.ref bx313) a_cache X11 hx hZ hw hby hml hown e11 N11 (Nat.le_trans Z0 KK11.1) u18 o11_0 f7 f8 f9 u19 u20 g_b310 o6_3 u21
  have KK17 : Keep h0 h17 [] := KK11.trans K17 (fun x hx => (List.mem_cons.mp hx).elim (fun q => q ▸ (Or.inr sz_b310)) (fun hx => nomatch hx))
  have u23 : F_0 Z h17 b309 (.ref b310) := Fld.keep u18 K17 (own_notin o6_4 List.not_mem_nil)
  have u24 : E_1 Z h17 b309 := Exa.keep u21 K17
  obtain ⟨T22, L22, X22, e22, N22, st22⟩ := sg161_295 p0 p1 p2 (4 : Int32) (0 : Int32) (1 : Int32) (1 : Int32) jam (9223372036854775807 : Int64) b309 b310 kc311 bx312 .null (.ref bx313) (.ref bx314) X17 hx hZ hw hby hml hown e17 N17 (Nat.le_trans Z0 KK17.1) u23 o17_0 u24
  obtain ⟨T25, L25, X25, e25, N25, st25⟩ := sg179_215 p0 p1 p2 (1 : Int32) (1 : Int32) (1 : Int32) jam (9223372036854775807 : Int64) b309 b310 kc311 (.ref bx312) (.ref bx313) (.ref bx314) X22 hx hZ hw hby hml hown e22 N22 (Nat.le_trans Z0 KK17.1) u23 o17_0 u24
  obtain ⟨T26, L26, X26, e26, N26, st26⟩ := sg208_245 p0 p1 p2 (1 : Int32) (0 : Int32) (1 : Int32) jam (9223372036854775807 : Int64) b309 b310 kc311 (.ref bx312) .null bx313 (.ref bx314) X25 hx hZ hw hby hml hown e25 N25 (Nat.le_trans Z0 KK17.1) u23 o17_0 u24
  obtain ⟨T27, L27, X27, e27, N27, st27⟩ := sg237_232 p0 p1 p2 (1 : Int32) (0 : Int32) (1 : Int32) jam (9223372036854775807 : Int64) b309 b310 kc311 (.ref bx312) .null (.ref bx313) bx314 X26 hx hZ hw hby hml hown e26 N26 (Nat.le_trans Z0 KK17.1) u23 o17_0 u24
  obtain ⟨fs, hr, hrun, hended, hW, hsame⟩ := X27.leave (v := (some (.int 1))) (fun h => by rw [Bd.returns] at h; cases h)
  refine ⟨_, _, castTop (ef0_IIJ m p0 p1 p2) ?_, hrun, hended, _, _, rfl, ?_, ⟨_, rfl⟩, hW, hsame.mono (by decide) (by decide)⟩
  · show Steps p.tables e below (s₁.setTop (mkF m 0 #[.val (.int p0), .val (.int p1), .val (.long p2), .second, .unset, .unset, .unset, .unset, .unset, .unset, .unset, .unset, .unset, .unset, .unset] [])) _
    refine XS.iloadN X0.here hx rfl (hb hby at_0) rfl ?_
    refine XS.iconst X0.here hx rfl (hb hby at_1) ?_
    show Steps p.tables e below (s₁.setTop (mkF m 2 #[.val (.int p0), .val (.int p1), .val (.long p2), .second, .unset, .unset, .unset, .unset, .unset, .unset, .unset, .unset, .unset, .unset, .unset] [(.int 3), (.int p0)])) _
    refine XS.iand X0.here hx rfl (hb hby at_2) rfl ?_
    show Steps p.tables e below (s₁.setTop (mkF m 3 #[.val (.int p0), .val (.int p1), .val (.long p2), .second, .unset, .unset, .unset, .unset, .unset, .unset, .unset, .unset, .unset, .unset, .unset] [(.int (p0 &&& (3 : Int32)))])) _
    rw [f1]
    refine XS.iconst X0.here hx rfl (hb hby at_3) ?_
    show Steps p.tables e below (s₁.setTop (mkF m 4 #[.val (.int p0), .val (.int p1), .val (.long p2), .second, .unset, .unset, .unset, .unset, .unset, .unset, .unset, .unset, .unset, .unset, .unset] [(.int 1), (.int 3)])) _
    refine XS.iadd X0.here hx rfl (hb hby at_4) rfl ?_
    show Steps p.tables e below (s₁.setTop (mkF m 5 #[.val (.int p0), .val (.int p1), .val (.long p2), .second, .unset, .unset, .unset, .unset, .unset, .unset, .unset, .unset, .unset, .unset, .unset] [(.int ((3 : Int32) + (1 : Int32)))])) _
    rw [show ((3 : Int32) + (1 : Int32)) = (4 : Int32) from by decide]
    refine XS.istore X0.here hx rfl (hb hby at_5) rfl (l' := #[.val (.int p0), .val (.int p1), .val (.long p2), .second, .val (.int 4), .unset, .unset, .unset, .unset, .unset, .unset, .unset, .unset, .unset, .unset]) rfl ?_
    show Steps p.tables e below (s₁.setTop (mkF m 7 #[.val (.int p0), .val (.int p1), .val (.long p2), .second, .val (.int 4), .unset, .unset, .unset, .unset, .unset, .unset, .unset, .unset, .unset, .unset] [])) _
    refine st1 _ ?_
    show Steps p.tables e below (T1.setTop (mkF m 20 #[.val (.int p0), .val (.int p1), .val (.long p2), .second, .val (.int 4), .val (.int 1), .unset, .unset, .unset, .unset, .unset, .unset, .unset, .unset, .unset] [])) _
    refine st2 _ ?_
    show Steps p.tables e below (T2.setTop (mkF m 39 #[.val (.int p0), .val (.int p1), .val (.long p2), .second, .val (.int 4), .val (.int 1), .val (.int 0), .unset, .unset, .unset, .unset, .unset, .unset, .unset, .unset] [])) _
    refine st3 _ ?_
    show Steps p.tables e below (T3.setTop (mkF m 58 #[.val (.int p0), .val (.int p1), .val (.long p2), .second, .val (.int 4), .val (.int 1), .val (.int 0), .val (.int 1), .unset, .unset, .unset, .unset, .unset, .unset, .unset] [])) _
    refine st4 _ ?_
    show Steps p.tables e below (T4.setTop (mkF m 78 #[.val (.int p0), .val (.int p1), .val (.long p2), .second, .val (.int 4), .val (.int 1), .val (.int 0), .val (.int 1), .val (.int 1), .unset, .unset, .unset, .unset, .unset, .unset] [])) _
    refine st5 _ ?_
    show Steps p.tables e below (T5.setTop (mkF m 90 #[.val (.int p0), .val (.int p1), .val (.long p2), .second, .val (.int 4), .val (.int 1), .val (.int 0), .val (.int 1), .val (.int 1), .val (.long jam), .second, .val (.long 9223372036854775807), .second, .unset, .unset] [])) _
    refine st6 _ ?_
    show Steps p.tables e below (T6.setTop (mkF m 101 #[.val (.int p0), .val (.int p1), .val (.long p2), .second, .val (.int 4), .val (.int 1), .val (.int 0), .val (.int 1), .val (.int 1), .val (.long jam), .second, .val (.long 9223372036854775807), .second, .val (.ref b309), .unset] [])) _
    refine st7 _ ?_
    show Steps p.tables e below (T7.setTop (mkF m 116 #[.val (.int p0), .val (.int p1), .val (.long p2), .second, .val (.int 4), .val (.int 1), .val (.int 0), .val (.int 1), .val (.int 1), .val (.long jam), .second, .val (.long 9223372036854775807), .second, .val (.ref b309), .unset] [])) _
    refine st10 _ ?_
    show Steps p.tables e below (T10.setTop (mkF m 131 #[.val (.int p0), .val (.int p1), .val (.long p2), .second, .val (.int 4), .val (.int 1), .val (.int 0), .val (.int 1), .val (.int 1), .val (.long jam), .second, .val (.long 9223372036854775807), .second, .val (.ref b309), .unset] [])) _
    refine st11 _ ?_
    show Steps p.tables e below (T11.setTop (mkF m 146 #[.val (.int p0), .val (.int p1), .val (.long p2), .second, .val (.int 4), .val (.int 1), .val (.int 0), .val (.int 1), .val (.int 1), .val (.long jam), .second, .val (.long 9223372036854775807), .second, .val (.ref b309), .unset] [])) _
    refine st17 _ ?_
    show Steps p.tables e below (T17.setTop (mkF m 161 #[.val (.int p0), .val (.int p1), .val (.long p2), .second, .val (.int 4), .val (.int 1), .val (.int 0), .val (.int 1), .val (.int 1), .val (.long jam), .second, .val (.long 9223372036854775807), .second, .val (.ref b309), .unset] [])) _
    refine st22 _ ?_
    show Steps p.tables e below (T22.setTop (mkF m 179 #[.val (.int p0), .val (.int p1), .val (.long p2), .second, .val (.int 4), .val (.int 1), .val (.int 0), .val (.int 1), .val (.int 1), .val (.long jam), .second, .val (.long 9223372036854775807), .second, .val (.ref b309), .val (.int 1)] [])) _
    refine st25 _ ?_
    show Steps p.tables e below (T25.setTop (mkF m 208 #[.val (.int p0), .val (.int p1), .val (.long p2), .second, .val (.int 4), .val (.int 1), .val (.int 0), .val (.int 1), .val (.int 1), .val (.long jam), .second, .val (.long 9223372036854775807), .second, .val (.ref b309), .val (.int 1)] [])) _
    refine st26 _ ?_
    show Steps p.tables e below (T26.setTop (mkF m 237 #[.val (.int p0), .val (.int p1), .val (.long p2), .second, .val (.int 4), .val (.int 1), .val (.int 0), .val (.int 1), .val (.int 1), .val (.long jam), .second, .val (.long 9223372036854775807), .second, .val (.ref b309), .val (.int 1)] [])) _
    refine st27 _ ?_
    refine XS.iload X27.here hx rfl (hb hby at_266) rfl ?_
    show Steps p.tables e below (T27.setTop (mkF m 268 #[.val (.int p0), .val (.int p1), .val (.long p2), .second, .val (.int 4), .val (.int 1), .val (.int 0), .val (.int 1), .val (.int 1), .val (.long jam), .second, .val (.long 9223372036854775807), .second, .val (.ref b309), .val (.int 1)] [(.int 1)])) _
    exact retN X27 hx (t := .boolean) Bd.returns (by simp) (hb hby at_268) hr
  · show QT n0 _ T27.heap _
    rw [e27]
    exact ⟨rfl, N27⟩
set_option maxRecDepth 65536 in
set_option maxHeartbeats 40000000 in
theorem rm0_321 (l : Launch) (Z : State) (a0 : Array Value) (hw : ∀ d ∈ tables_1, d.before a0 Z = true) (ws : List Jvm.Cond) (p0 : Int32) (p1 : Int32) (p2 : Int64) (jam : Int64) (a_cache : Addr) (h0 : Heap) (n0 : Nat) (Z0 : n0 ≤ h0.size) (f1 : (p0 &&& (3 : Int32)) = (3 : Int32)) (f2 : ¬ ((p1 &&& (1 : Int32)) = (0 : Int32))) (f3 : ¬ ((p1 &&& (2 : Int32)) = (0 : Int32))) (f4 : (p1 &&& (4 : Int32)) = (0 : Int32)) (f5 : (p1 &&& (8 : Int32)) = (0 : Int32)) (f6 : (p2 &&& (9223372036854775807 : Int64)) = jam) (f7 : ¬ ((lcmpW jam (0 : Int64)) < (0 : Int32))) (f8 : ¬ ((0 : Int32) < (lcmpW jam (9223372036854775807 : Int64)))) (f9 : ¬ ((lcmpW jam (-128 : Int64)) < (0 : Int32))) (f10 : S_0 Z h0 (.ref a_cache)) (f11 : OwnAll Z h0 a_cache "java/lang/Long") (f12 : E_0 Z h0 a_cache) :
    MetFree l x (head1 (Jvm.Cond.code x code maxLocals ret :: ws) room_1) (fun a U => a = #[(.int p0), (.int p1), (.long p2)] ∧ Z.Warmed39 U.vm ∧ U.heap = h0) (fun _ _ _ _ _ => True) (fun _ U o U' => ∃ v L, o = .returned v ∧ QT n0 v U'.heap L ∧ FrameEnd U o U' L room_1.cells room_1.slots) := by
  refine MetFree.of_bodySF (plainFor_of_name pn_hexwright_engine_SealedBidsHasBidPinLaw) hisR ?_
  intro p e s m args below meth c s₁ Bd hml0 hP hK
  obtain ⟨rfl, hZ, hh⟩ := hP
  have hx := Bd.exec
  have hby := Bd.bytes
  have hml : c.maxLocals = 15 := hml0
  have hown : s.vm.findClass "hexwright/engine/SealedBidsHasBidPinLaw" = some m.cls := findClass_of_methodNamed Bd.named
  have hnm := (name_of_methodNamed Bd.named Bd.method).1
  have X0 : Stand p l e room_1 s m #[(.int p0), (.int p1), (.long p2)] below meth c s₁ [] 0 0 := Stand.of_body Bd
  have e0 : s₁.heap = h0 := by rw [← hh, Bd.state]; rfl
  have N0 := Fr.nil n0
  obtain ⟨T1, L1, X1, e1, N1, st1⟩ := sg7_27 p0 p1 p2 (4 : Int32) X0 hx hZ hw hby hml hown e0 N0 Z0 f2
  obtain ⟨T2, L2, X2, e2, N2, st2⟩ := sg20_253 p0 p1 p2 (1 : Int32) X1 hx hZ hw hby hml hown e1 N1 Z0 f3
  obtain ⟨T3, L3, X3, e3, N3, st3⟩ := sg39_195 p0 p1 p2 (1 : Int32) (1 : Int32) X2 hx hZ hw hby hml hown e2 N2 Z0 f4
  obtain ⟨T4, L4, X4, e4, N4, st4⟩ := sg58_196 p0 p1 p2 (1 : Int32) (1 : Int32) (0 : Int32) X3 hx hZ hw hby hml hown e3 N3 Z0 f5
  obtain ⟨T5, L5, X5, e5, N5, st5⟩ := sg78_5 p0 p1 p2 (4 : Int32) (1 : Int32) (1 : Int32) (0 : Int32) (0 : Int32) jam X4 hx hZ hw hby hml hown e4 N4 Z0 f6
  obtain ⟨T6, h6, L6, b316, b317, kc318, X6, e6, N6, K6, le_b316, le_b317, o6_0, o6_1, o6_2, o6_3, o6_4, st6⟩ := sg90_204 p0 p1 p2 (1 : Int32) (1 : Int32) (0 : Int32) (0 : Int32) jam (9223372036854775807 : Int64) X5 hx hZ hw hby hml hown e5 N5 Z0 
  have sz_b316 : h0.size ≤ b316 := Nat.le_trans (Nat.le_refl _) le_b316
  have g_b316 : n0 ≤ b316 := Nat.le_trans Z0 sz_b316
  have sz_b317 : h0.size ≤ b317 := Nat.le_trans (Nat.le_refl _) le_b317
  have g_b317 : n0 ≤ b317 := Nat.le_trans Z0 sz_b317
  have KK6 : Keep h0 h6 [] := (Keep.refl h0 []).trans K6 (fun x hx => nomatch hx)
  have u8 : S_0 Z h6 (.ref a_cache) := own_sta_keep f10 K6 (fun _ q => nomatch q)
  have u9 : OwnAll Z h6 a_cache "java/lang/Long" := own_all_keep f11 K6 List.not_mem_nil
  obtain ⟨T7, h7, L7, bx319, X7, e7, N7, K7, o7_0, st7⟩ := sg101_292 p0 p1 p2 (4 : Int32) (1 : Int32) (0 : Int32) (0 : Int32) jam b316 b317 kc318 .null .null .null a_cache X6 hx hZ hw hby hml hown e6 N6 (Nat.le_trans Z0 KK6.1) o6_1 o6_2 f7 f8 f9 u8 u9 g_b317 o6_3 o6_0
  have KK7 : Keep h0 h7 [] := KK6.trans K7 (fun x hx => (List.mem_cons.mp hx).elim (fun q => q ▸ (Or.inr sz_b317)) (fun hx => nomatch hx))
  have u11 : F_0 Z h7 b316 (.ref b317) := Fld.keep o6_1 K7 (own_notin o6_4 List.not_mem_nil)
  have u12 : S_0 Z h7 (.ref a_cache) := own_sta_keep u8 K7 (own_ns (Arv.nostat o6_2) (fun _ q => nomatch q))
  have ne13 : a_cache ≠ b317 := Nat.ne_of_lt (Nat.lt_of_lt_of_le (Exa.lt f12) le_b317)
  have u14 : OwnAll Z h7 a_cache "java/lang/Long" := own_all_keep u9 K7 (own_notin ne13 List.not_mem_nil)
  have u15 : E_1 Z h7 b316 := Exa.keep o6_0 K7
  obtain ⟨T10, h10, L10, bx320, X10, e10, N10, K10, o10_0, st10⟩ := sg116_261 p0 p1 p2 (4 : Int32) (1 : Int32) (0 : Int32) (0 : Int32) jam b316 b317 kc318 (.ref bx319) .null .null a_cache X7 hx hZ hw hby hml hown e7 N7 (Nat.le_trans Z0 KK7.1) u11 o7_0 f7 f8 f9 u12 u14 g_b317 o6_3 u15
  have KK10 : Keep h0 h10 [] := KK7.trans K10 (fun x hx => (List.mem_cons.mp hx).elim (fun q => q ▸ (Or.inr sz_b317)) (fun hx => nomatch hx))
  obtain ⟨T16, L16, X16, e16, N16, st16⟩ := sg131_210 p0 p1 p2 (4 : Int32) (1 : Int32) (1 : Int32) (0 : Int32) jam b316 X10 hx hZ hw hby hml hown e10 N10 (Nat.le_trans Z0 KK10.1) 
  obtain ⟨T17, L17, X17, e17, N17, st17⟩ := sg146_211 p0 p1 p2 (4 : Int32) (1 : Int32) (1 : Int32) (0 : Int32) jam b316 X16 hx hZ hw hby hml hown e16 N16 (Nat.le_trans Z0 KK10.1) 
  have u19 : F_0 Z h10 b316 (.ref b317) := Fld.keep u11 K10 (own_notin o6_4 List.not_mem_nil)
  have u20 : E_1 Z h10 b316 := Exa.keep u15 K10
  obtain ⟨T18, L18, X18, e18, N18, st18⟩ := sg161_295 p0 p1 p2 (4 : Int32) (1 : Int32) (0 : Int32) (0 : Int32) jam (9223372036854775807 : Int64) b316 b317 kc318 bx319 (.ref bx320) .null .null X17 hx hZ hw hby hml hown e17 N17 (Nat.le_trans Z0 KK10.1) u19 o10_0 u20
  obtain ⟨T21, L21, X21, e21, N21, st21⟩ := sg179_264 p0 p1 p2 (1 : Int32) (0 : Int32) (0 : Int32) jam (9223372036854775807 : Int64) b316 b317 kc318 (.ref bx319) bx320 .null .null X18 hx hZ hw hby hml hown e18 N18 (Nat.le_trans Z0 KK10.1) u19 o10_0 u20
  obtain ⟨T22, L22, X22, e22, N22, st22⟩ := sg208_217 p0 p1 p2 (1 : Int32) (1 : Int32) (0 : Int32) jam (9223372036854775807 : Int64) b316 b317 kc318 (.ref bx319) (.ref bx320) .null X21 hx hZ hw hby hml hown e21 N21 (Nat.le_trans Z0 KK10.1) u19 o10_0 u20
  obtain ⟨T23, L23, X23, e23, N23, st23⟩ := sg237_219 p0 p1 p2 (1 : Int32) (1 : Int32) (0 : Int32) jam (9223372036854775807 : Int64) b316 b317 kc318 (.ref bx319) (.ref bx320) .null X22 hx hZ hw hby hml hown e22 N22 (Nat.le_trans Z0 KK10.1) u19 o10_0 u20
  obtain ⟨fs, hr, hrun, hended, hW, hsame⟩ := X23.leave (v := (some (.int 1))) (fun h => by rw [Bd.returns] at h; cases h)
  refine ⟨_, _, castTop (ef0_IIJ m p0 p1 p2) ?_, hrun, hended, _, _, rfl, ?_, ⟨_, rfl⟩, hW, hsame.mono (by decide) (by decide)⟩
  · show Steps p.tables e below (s₁.setTop (mkF m 0 #[.val (.int p0), .val (.int p1), .val (.long p2), .second, .unset, .unset, .unset, .unset, .unset, .unset, .unset, .unset, .unset, .unset, .unset] [])) _
    refine XS.iloadN X0.here hx rfl (hb hby at_0) rfl ?_
    refine XS.iconst X0.here hx rfl (hb hby at_1) ?_
    show Steps p.tables e below (s₁.setTop (mkF m 2 #[.val (.int p0), .val (.int p1), .val (.long p2), .second, .unset, .unset, .unset, .unset, .unset, .unset, .unset, .unset, .unset, .unset, .unset] [(.int 3), (.int p0)])) _
    refine XS.iand X0.here hx rfl (hb hby at_2) rfl ?_
    show Steps p.tables e below (s₁.setTop (mkF m 3 #[.val (.int p0), .val (.int p1), .val (.long p2), .second, .unset, .unset, .unset, .unset, .unset, .unset, .unset, .unset, .unset, .unset, .unset] [(.int (p0 &&& (3 : Int32)))])) _
    rw [f1]
    refine XS.iconst X0.here hx rfl (hb hby at_3) ?_
    show Steps p.tables e below (s₁.setTop (mkF m 4 #[.val (.int p0), .val (.int p1), .val (.long p2), .second, .unset, .unset, .unset, .unset, .unset, .unset, .unset, .unset, .unset, .unset, .unset] [(.int 1), (.int 3)])) _
    refine XS.iadd X0.here hx rfl (hb hby at_4) rfl ?_
    show Steps p.tables e below (s₁.setTop (mkF m 5 #[.val (.int p0), .val (.int p1), .val (.long p2), .second, .unset, .unset, .unset, .unset, .unset, .unset, .unset, .unset, .unset, .unset, .unset] [(.int ((3 : Int32) + (1 : Int32)))])) _
    rw [show ((3 : Int32) + (1 : Int32)) = (4 : Int32) from by decide]
    refine XS.istore X0.here hx rfl (hb hby at_5) rfl (l' := #[.val (.int p0), .val (.int p1), .val (.long p2), .second, .val (.int 4), .unset, .unset, .unset, .unset, .unset, .unset, .unset, .unset, .unset, .unset]) rfl ?_
    show Steps p.tables e below (s₁.setTop (mkF m 7 #[.val (.int p0), .val (.int p1), .val (.long p2), .second, .val (.int 4), .unset, .unset, .unset, .unset, .unset, .unset, .unset, .unset, .unset, .unset] [])) _
    refine st1 _ ?_
    show Steps p.tables e below (T1.setTop (mkF m 20 #[.val (.int p0), .val (.int p1), .val (.long p2), .second, .val (.int 4), .val (.int 1), .unset, .unset, .unset, .unset, .unset, .unset, .unset, .unset, .unset] [])) _
    refine st2 _ ?_
    show Steps p.tables e below (T2.setTop (mkF m 39 #[.val (.int p0), .val (.int p1), .val (.long p2), .second, .val (.int 4), .val (.int 1), .val (.int 1), .unset, .unset, .unset, .unset, .unset, .unset, .unset, .unset] [])) _
    refine st3 _ ?_
    show Steps p.tables e below (T3.setTop (mkF m 58 #[.val (.int p0), .val (.int p1), .val (.long p2), .second, .val (.int 4), .val (.int 1), .val (.int 1), .val (.int 0), .unset, .unset, .unset, .unset, .unset, .unset, .unset] [])) _
    refine st4 _ ?_
    show Steps p.tables e below (T4.setTop (mkF m 78 #[.val (.int p0), .val (.int p1), .val (.long p2), .second, .val (.int 4), .val (.int 1), .val (.int 1), .val (.int 0), .val (.int 0), .unset, .unset, .unset, .unset, .unset, .unset] [])) _
    refine st5 _ ?_
    show Steps p.tables e below (T5.setTop (mkF m 90 #[.val (.int p0), .val (.int p1), .val (.long p2), .second, .val (.int 4), .val (.int 1), .val (.int 1), .val (.int 0), .val (.int 0), .val (.long jam), .second, .val (.long 9223372036854775807), .second, .unset, .unset] [])) _
    refine st6 _ ?_
    show Steps p.tables e below (T6.setTop (mkF m 101 #[.val (.int p0), .val (.int p1), .val (.long p2), .second, .val (.int 4), .val (.int 1), .val (.int 1), .val (.int 0), .val (.int 0), .val (.long jam), .second, .val (.long 9223372036854775807), .second, .val (.ref b316), .unset] [])) _
    refine st7 _ ?_
    show Steps p.tables e below (T7.setTop (mkF m 116 #[.val (.int p0), .val (.int p1), .val (.long p2), .second, .val (.int 4), .val (.int 1), .val (.int 1), .val (.int 0), .val (.int 0), .val (.long jam), .second, .val (.long 9223372036854775807), .second, .val (.ref b316), .unset] [])) _
    refine st10 _ ?_
    show Steps p.tables e below (T10.setTop (mkF m 131 #[.val (.int p0), .val (.int p1), .val (.long p2), .second, .val (.int 4), .val (.int 1), .val (.int 1), .val (.int 0), .val (.int 0), .val (.long jam), .second, .val (.long 9223372036854775807), .second, .val (.ref b316), .unset] [])) _
    refine st16 _ ?_
    show Steps p.tables e below (T16.setTop (mkF m 146 #[.val (.int p0), .val (.int p1), .val (.long p2), .second, .val (.int 4), .val (.int 1), .val (.int 1), .val (.int 0), .val (.int 0), .val (.long jam), .second, .val (.long 9223372036854775807), .second, .val (.ref b316), .unset] [])) _
    refine st17 _ ?_
    show Steps p.tables e below (T17.setTop (mkF m 161 #[.val (.int p0), .val (.int p1), .val (.long p2), .second, .val (.int 4), .val (.int 1), .val (.int 1), .val (.int 0), .val (.int 0), .val (.long jam), .second, .val (.long 9223372036854775807), .second, .val (.ref b316), .unset] [])) _
    refine st18 _ ?_
    show Steps p.tables e below (T18.setTop (mkF m 179 #[.val (.int p0), .val (.int p1), .val (.long p2), .second, .val (.int 4), .val (.int 1), .val (.int 1), .val (.int 0), .val (.int 0), .val (.long jam), .second, .val (.long 9223372036854775807), .second, .val (.ref b316), .val (.int 1)] [])) _
    refine st21 _ ?_
    show Steps p.tables e below (T21.setTop (mkF m 208 #[.val (.int p0), .val (.int p1), .val (.long p2), .second, .val (.int 4), .val (.int 1), .val (.int 1), .val (.int 0), .val (.int 0), .val (.long jam), .second, .val (.long 9223372036854775807), .second, .val (.ref b316), .val (.int 1)] [])) _
    refine st22 _ ?_
    show Steps p.tables e below (T22.setTop (mkF m 237 #[.val (.int p0), .val (.int p1), .val (.long p2), .second, .val (.int 4), .val (.int 1), .val (.int 1), .val (.int 0), .val (.int 0), .val (.long jam), .second, .val (.long 9223372036854775807), .second, .val (.ref b316), .val (.int 1)] [])) _
    refine st23 _ ?_
    refine XS.iload X23.here hx rfl (hb hby at_266) rfl ?_
    show Steps p.tables e below (T23.setTop (mkF m 268 #[.val (.int p0), .val (.int p1), .val (.long p2), .second, .val (.int 4), .val (.int 1), .val (.int 1), .val (.int 0), .val (.int 0), .val (.long jam), .second, .val (.long 9223372036854775807), .second, .val (.ref b316), .val (.int 1)] [(.int 1)])) _
    exact retN X23 hx (t := .boolean) Bd.returns (by simp) (hb hby at_268) hr
  · show QT n0 _ T23.heap _
    rw [e23]
    exact ⟨rfl, N23⟩
set_option maxRecDepth 65536 in
set_option maxHeartbeats 40000000 in
theorem rm0_328 (l : Launch) (Z : State) (a0 : Array Value) (hw : ∀ d ∈ tables_1, d.before a0 Z = true) (ws : List Jvm.Cond) (p0 : Int32) (p1 : Int32) (p2 : Int64) (jam : Int64) (a_cache : Addr) (h0 : Heap) (n0 : Nat) (Z0 : n0 ≤ h0.size) (f1 : (p0 &&& (3 : Int32)) = (3 : Int32)) (f2 : ¬ ((p1 &&& (1 : Int32)) = (0 : Int32))) (f3 : ¬ ((p1 &&& (2 : Int32)) = (0 : Int32))) (f4 : (p1 &&& (4 : Int32)) = (0 : Int32)) (f5 : ¬ ((p1 &&& (8 : Int32)) = (0 : Int32))) (f6 : (p2 &&& (9223372036854775807 : Int64)) = jam) (f7 : ¬ ((lcmpW jam (0 : Int64)) < (0 : Int32))) (f8 : ¬ ((0 : Int32) < (lcmpW jam (9223372036854775807 : Int64)))) (f9 : ¬ ((lcmpW jam (-128 : Int64)) < (0 : Int32))) (f10 : S_0 Z h0 (.ref a_cache)) (f11 : OwnAll Z h0 a_cache "java/lang/Long") (f12 : E_0 Z h0 a_cache) :
    MetFree l x (head1 (Jvm.Cond.code x code maxLocals ret :: ws) room_1) (fun a U => a = #[(.int p0), (.int p1), (.long p2)] ∧ Z.Warmed39 U.vm ∧ U.heap = h0) (fun _ _ _ _ _ => True) (fun _ U o U' => ∃ v L, o = .returned v ∧ QT n0 v U'.heap L ∧ FrameEnd U o U' L room_1.cells room_1.slots) := by
  refine MetFree.of_bodySF (plainFor_of_name pn_hexwright_engine_SealedBidsHasBidPinLaw) hisR ?_
  intro p e s m args below meth c s₁ Bd hml0 hP hK
  obtain ⟨rfl, hZ, hh⟩ := hP
  have hx := Bd.exec
  have hby := Bd.bytes
  have hml : c.maxLocals = 15 := hml0
  have hown : s.vm.findClass "hexwright/engine/SealedBidsHasBidPinLaw" = some m.cls := findClass_of_methodNamed Bd.named
  have hnm := (name_of_methodNamed Bd.named Bd.method).1
  have X0 : Stand p l e room_1 s m #[(.int p0), (.int p1), (.long p2)] below meth c s₁ [] 0 0 := Stand.of_body Bd
  have e0 : s₁.heap = h0 := by rw [← hh, Bd.state]; rfl
  have N0 := Fr.nil n0
  obtain ⟨T1, L1, X1, e1, N1, st1⟩ := sg7_27 p0 p1 p2 (4 : Int32) X0 hx hZ hw hby hml hown e0 N0 Z0 f2
  obtain ⟨T2, L2, X2, e2, N2, st2⟩ := sg20_253 p0 p1 p2 (1 : Int32) X1 hx hZ hw hby hml hown e1 N1 Z0 f3
  obtain ⟨T3, L3, X3, e3, N3, st3⟩ := sg39_195 p0 p1 p2 (1 : Int32) (1 : Int32) X2 hx hZ hw hby hml hown e2 N2 Z0 f4
  obtain ⟨T4, L4, X4, e4, N4, st4⟩ := sg58_221 p0 p1 p2 (1 : Int32) (1 : Int32) (0 : Int32) X3 hx hZ hw hby hml hown e3 N3 Z0 f5
  obtain ⟨T5, L5, X5, e5, N5, st5⟩ := sg78_5 p0 p1 p2 (4 : Int32) (1 : Int32) (1 : Int32) (0 : Int32) (1 : Int32) jam X4 hx hZ hw hby hml hown e4 N4 Z0 f6
  obtain ⟨T6, h6, L6, b322, b323, kc324, X6, e6, N6, K6, le_b322, le_b323, o6_0, o6_1, o6_2, o6_3, o6_4, st6⟩ := sg90_204 p0 p1 p2 (1 : Int32) (1 : Int32) (0 : Int32) (1 : Int32) jam (9223372036854775807 : Int64) X5 hx hZ hw hby hml hown e5 N5 Z0 
  have sz_b322 : h0.size ≤ b322 := Nat.le_trans (Nat.le_refl _) le_b322
  have g_b322 : n0 ≤ b322 := Nat.le_trans Z0 sz_b322
  have sz_b323 : h0.size ≤ b323 := Nat.le_trans (Nat.le_refl _) le_b323
  have g_b323 : n0 ≤ b323 := Nat.le_trans Z0 sz_b323
  have KK6 : Keep h0 h6 [] := (Keep.refl h0 []).trans K6 (fun x hx => nomatch hx)
  have u8 : S_0 Z h6 (.ref a_cache) := own_sta_keep f10 K6 (fun _ q => nomatch q)
  have u9 : OwnAll Z h6 a_cache "java/lang/Long" := own_all_keep f11 K6 List.not_mem_nil
  obtain ⟨T7, h7, L7, bx325, X7, e7, N7, K7, o7_0, st7⟩ := sg101_292 p0 p1 p2 (4 : Int32) (1 : Int32) (0 : Int32) (1 : Int32) jam b322 b323 kc324 .null .null .null a_cache X6 hx hZ hw hby hml hown e6 N6 (Nat.le_trans Z0 KK6.1) o6_1 o6_2 f7 f8 f9 u8 u9 g_b323 o6_3 o6_0
  have KK7 : Keep h0 h7 [] := KK6.trans K7 (fun x hx => (List.mem_cons.mp hx).elim (fun q => q ▸ (Or.inr sz_b323)) (fun hx => nomatch hx))
  have u11 : F_0 Z h7 b322 (.ref b323) := Fld.keep o6_1 K7 (own_notin o6_4 List.not_mem_nil)
  have u12 : S_0 Z h7 (.ref a_cache) := own_sta_keep u8 K7 (own_ns (Arv.nostat o6_2) (fun _ q => nomatch q))
  have ne13 : a_cache ≠ b323 := Nat.ne_of_lt (Nat.lt_of_lt_of_le (Exa.lt f12) le_b323)
  have u14 : OwnAll Z h7 a_cache "java/lang/Long" := own_all_keep u9 K7 (own_notin ne13 List.not_mem_nil)
  have u15 : E_1 Z h7 b322 := Exa.keep o6_0 K7
  obtain ⟨T10, h10, L10, bx326, X10, e10, N10, K10, o10_0, st10⟩ := sg116_261 p0 p1 p2 (4 : Int32) (1 : Int32) (0 : Int32) (1 : Int32) jam b322 b323 kc324 (.ref bx325) .null .null a_cache X7 hx hZ hw hby hml hown e7 N7 (Nat.le_trans Z0 KK7.1) u11 o7_0 f7 f8 f9 u12 u14 g_b323 o6_3 u15
  have KK10 : Keep h0 h10 [] := KK7.trans K10 (fun x hx => (List.mem_cons.mp hx).elim (fun q => q ▸ (Or.inr sz_b323)) (fun hx => nomatch hx))
  obtain ⟨T16, L16, X16, e16, N16, st16⟩ := sg131_210 p0 p1 p2 (4 : Int32) (1 : Int32) (1 : Int32) (1 : Int32) jam b322 X10 hx hZ hw hby hml hown e10 N10 (Nat.le_trans Z0 KK10.1) 
  have u18 : F_0 Z h10 b322 (.ref b323) := Fld.keep u11 K10 (own_notin o6_4 List.not_mem_nil)
  have u19 : S_0 Z h10 (.ref a_cache) := own_sta_keep u12 K10 (own_ns (Arv.nostat o7_0) (fun _ q => nomatch q))
  have u20 : OwnAll Z h10 a_cache "java/lang/Long" := own_all_keep u14 K10 (own_notin ne13 List.not_mem_nil)
  have u21 : E_1 Z h10 b322 := Exa.keep u15 K10
  obtain ⟨T17, h17, L17, bx327, X17, e17, N17, K17, o17_0, st17⟩ := sg146_229 p0 p1 p2 (4 : Int32) (1 : Int32) (1 : Int32) (0 : Int32) jam b322 b323 kc324 (.ref bx325) (.ref bx326) .null a_cache X16 hx hZ hw hby hml hown e16 N16 (Nat.le_trans Z0 KK10.1) u18 o10_0 f7 f8 f9 u19 u20 g_b323 o6_3 u21
  have KK17 : Keep h0 h17 [] := KK10.trans K17 (fun x hx => (List.mem_cons.mp hx).elim (fun q => q ▸ (Or.inr sz_b323)) (fun hx => nomatch hx))
  have u23 : F_0 Z h17 b322 (.ref b323) := Fld.keep u18 K17 (own_notin o6_4 List.not_mem_nil)
  have u24 : E_1 Z h17 b322 := Exa.keep u21 K17
  obtain ⟨T22, L22, X22, e22, N22, st22⟩ := sg161_295 p0 p1 p2 (4 : Int32) (1 : Int32) (0 : Int32) (1 : Int32) jam (9223372036854775807 : Int64) b322 b323 kc324 bx325 (.ref bx326) .null (.ref bx327) X17 hx hZ hw hby hml hown e17 N17 (Nat.le_trans Z0 KK17.1) u23 o17_0 u24
  obtain ⟨T25, L25, X25, e25, N25, st25⟩ := sg179_264 p0 p1 p2 (1 : Int32) (0 : Int32) (1 : Int32) jam (9223372036854775807 : Int64) b322 b323 kc324 (.ref bx325) bx326 .null (.ref bx327) X22 hx hZ hw hby hml hown e22 N22 (Nat.le_trans Z0 KK17.1) u23 o17_0 u24
  obtain ⟨T26, L26, X26, e26, N26, st26⟩ := sg208_217 p0 p1 p2 (1 : Int32) (1 : Int32) (1 : Int32) jam (9223372036854775807 : Int64) b322 b323 kc324 (.ref bx325) (.ref bx326) (.ref bx327) X25 hx hZ hw hby hml hown e25 N25 (Nat.le_trans Z0 KK17.1) u23 o17_0 u24
  obtain ⟨T27, L27, X27, e27, N27, st27⟩ := sg237_232 p0 p1 p2 (1 : Int32) (1 : Int32) (0 : Int32) jam (9223372036854775807 : Int64) b322 b323 kc324 (.ref bx325) (.ref bx326) .null bx327 X26 hx hZ hw hby hml hown e26 N26 (Nat.le_trans Z0 KK17.1) u23 o17_0 u24
  obtain ⟨fs, hr, hrun, hended, hW, hsame⟩ := X27.leave (v := (some (.int 1))) (fun h => by rw [Bd.returns] at h; cases h)
  refine ⟨_, _, castTop (ef0_IIJ m p0 p1 p2) ?_, hrun, hended, _, _, rfl, ?_, ⟨_, rfl⟩, hW, hsame.mono (by decide) (by decide)⟩
  · show Steps p.tables e below (s₁.setTop (mkF m 0 #[.val (.int p0), .val (.int p1), .val (.long p2), .second, .unset, .unset, .unset, .unset, .unset, .unset, .unset, .unset, .unset, .unset, .unset] [])) _
    refine XS.iloadN X0.here hx rfl (hb hby at_0) rfl ?_
    refine XS.iconst X0.here hx rfl (hb hby at_1) ?_
    show Steps p.tables e below (s₁.setTop (mkF m 2 #[.val (.int p0), .val (.int p1), .val (.long p2), .second, .unset, .unset, .unset, .unset, .unset, .unset, .unset, .unset, .unset, .unset, .unset] [(.int 3), (.int p0)])) _
    refine XS.iand X0.here hx rfl (hb hby at_2) rfl ?_
    show Steps p.tables e below (s₁.setTop (mkF m 3 #[.val (.int p0), .val (.int p1), .val (.long p2), .second, .unset, .unset, .unset, .unset, .unset, .unset, .unset, .unset, .unset, .unset, .unset] [(.int (p0 &&& (3 : Int32)))])) _
    rw [f1]
    refine XS.iconst X0.here hx rfl (hb hby at_3) ?_
    show Steps p.tables e below (s₁.setTop (mkF m 4 #[.val (.int p0), .val (.int p1), .val (.long p2), .second, .unset, .unset, .unset, .unset, .unset, .unset, .unset, .unset, .unset, .unset, .unset] [(.int 1), (.int 3)])) _
    refine XS.iadd X0.here hx rfl (hb hby at_4) rfl ?_
    show Steps p.tables e below (s₁.setTop (mkF m 5 #[.val (.int p0), .val (.int p1), .val (.long p2), .second, .unset, .unset, .unset, .unset, .unset, .unset, .unset, .unset, .unset, .unset, .unset] [(.int ((3 : Int32) + (1 : Int32)))])) _
    rw [show ((3 : Int32) + (1 : Int32)) = (4 : Int32) from by decide]
    refine XS.istore X0.here hx rfl (hb hby at_5) rfl (l' := #[.val (.int p0), .val (.int p1), .val (.long p2), .second, .val (.int 4), .unset, .unset, .unset, .unset, .unset, .unset, .unset, .unset, .unset, .unset]) rfl ?_
    show Steps p.tables e below (s₁.setTop (mkF m 7 #[.val (.int p0), .val (.int p1), .val (.long p2), .second, .val (.int 4), .unset, .unset, .unset, .unset, .unset, .unset, .unset, .unset, .unset, .unset] [])) _
    refine st1 _ ?_
    show Steps p.tables e below (T1.setTop (mkF m 20 #[.val (.int p0), .val (.int p1), .val (.long p2), .second, .val (.int 4), .val (.int 1), .unset, .unset, .unset, .unset, .unset, .unset, .unset, .unset, .unset] [])) _
    refine st2 _ ?_
    show Steps p.tables e below (T2.setTop (mkF m 39 #[.val (.int p0), .val (.int p1), .val (.long p2), .second, .val (.int 4), .val (.int 1), .val (.int 1), .unset, .unset, .unset, .unset, .unset, .unset, .unset, .unset] [])) _
    refine st3 _ ?_
    show Steps p.tables e below (T3.setTop (mkF m 58 #[.val (.int p0), .val (.int p1), .val (.long p2), .second, .val (.int 4), .val (.int 1), .val (.int 1), .val (.int 0), .unset, .unset, .unset, .unset, .unset, .unset, .unset] [])) _
    refine st4 _ ?_
    show Steps p.tables e below (T4.setTop (mkF m 78 #[.val (.int p0), .val (.int p1), .val (.long p2), .second, .val (.int 4), .val (.int 1), .val (.int 1), .val (.int 0), .val (.int 1), .unset, .unset, .unset, .unset, .unset, .unset] [])) _
    refine st5 _ ?_
    show Steps p.tables e below (T5.setTop (mkF m 90 #[.val (.int p0), .val (.int p1), .val (.long p2), .second, .val (.int 4), .val (.int 1), .val (.int 1), .val (.int 0), .val (.int 1), .val (.long jam), .second, .val (.long 9223372036854775807), .second, .unset, .unset] [])) _
    refine st6 _ ?_
    show Steps p.tables e below (T6.setTop (mkF m 101 #[.val (.int p0), .val (.int p1), .val (.long p2), .second, .val (.int 4), .val (.int 1), .val (.int 1), .val (.int 0), .val (.int 1), .val (.long jam), .second, .val (.long 9223372036854775807), .second, .val (.ref b322), .unset] [])) _
    refine st7 _ ?_
    show Steps p.tables e below (T7.setTop (mkF m 116 #[.val (.int p0), .val (.int p1), .val (.long p2), .second, .val (.int 4), .val (.int 1), .val (.int 1), .val (.int 0), .val (.int 1), .val (.long jam), .second, .val (.long 9223372036854775807), .second, .val (.ref b322), .unset] [])) _
    refine st10 _ ?_
    show Steps p.tables e below (T10.setTop (mkF m 131 #[.val (.int p0), .val (.int p1), .val (.long p2), .second, .val (.int 4), .val (.int 1), .val (.int 1), .val (.int 0), .val (.int 1), .val (.long jam), .second, .val (.long 9223372036854775807), .second, .val (.ref b322), .unset] [])) _
    refine st16 _ ?_
    show Steps p.tables e below (T16.setTop (mkF m 146 #[.val (.int p0), .val (.int p1), .val (.long p2), .second, .val (.int 4), .val (.int 1), .val (.int 1), .val (.int 0), .val (.int 1), .val (.long jam), .second, .val (.long 9223372036854775807), .second, .val (.ref b322), .unset] [])) _
    refine st17 _ ?_
    show Steps p.tables e below (T17.setTop (mkF m 161 #[.val (.int p0), .val (.int p1), .val (.long p2), .second, .val (.int 4), .val (.int 1), .val (.int 1), .val (.int 0), .val (.int 1), .val (.long jam), .second, .val (.long 9223372036854775807), .second, .val (.ref b322), .unset] [])) _
    refine st22 _ ?_
    show Steps p.tables e below (T22.setTop (mkF m 179 #[.val (.int p0), .val (.int p1), .val (.long p2), .second, .val (.int 4), .val (.int 1), .val (.int 1), .val (.int 0), .val (.int 1), .val (.long jam), .second, .val (.long 9223372036854775807), .second, .val (.ref b322), .val (.int 1)] [])) _
    refine st25 _ ?_
    show Steps p.tables e below (T25.setTop (mkF m 208 #[.val (.int p0), .val (.int p1), .val (.long p2), .second, .val (.int 4), .val (.int 1), .val (.int 1), .val (.int 0), .val (.int 1), .val (.long jam), .second, .val (.long 9223372036854775807), .second, .val (.ref b322), .val (.int 1)] [])) _
    refine st26 _ ?_
    show Steps p.tables e below (T26.setTop (mkF m 237 #[.val (.int p0), .val (.int p1), .val (.long p2), .second, .val (.int 4), .val (.int 1), .val (.int 1), .val (.int 0), .val (.int 1), .val (.long jam), .second, .val (.long 9223372036854775807), .second, .val (.ref b322), .val (.int 1)] [])) _
    refine st27 _ ?_
    refine XS.iload X27.here hx rfl (hb hby at_266) rfl ?_
    show Steps p.tables e below (T27.setTop (mkF m 268 #[.val (.int p0), .val (.int p1), .val (.long p2), .second, .val (.int 4), .val (.int 1), .val (.int 1), .val (.int 0), .val (.int 1), .val (.long jam), .second, .val (.long 9223372036854775807), .second, .val (.ref b322), .val (.int 1)] [(.int 1)])) _
    exact retN X27 hx (t := .boolean) Bd.returns (by simp) (hb hby at_268) hr
  · show QT n0 _ T27.heap _
    rw [e27]
    exact ⟨rfl, N27⟩
set_option maxRecDepth 65536 in
set_option maxHeartbeats 40000000 in
theorem rm0_335 (l : Launch) (Z : State) (a0 : Array Value) (hw : ∀ d ∈ tables_1, d.before a0 Z = true) (ws : List Jvm.Cond) (p0 : Int32) (p1 : Int32) (p2 : Int64) (jam : Int64) (a_cache : Addr) (h0 : Heap) (n0 : Nat) (Z0 : n0 ≤ h0.size) (f1 : (p0 &&& (3 : Int32)) = (3 : Int32)) (f2 : ¬ ((p1 &&& (1 : Int32)) = (0 : Int32))) (f3 : ¬ ((p1 &&& (2 : Int32)) = (0 : Int32))) (f4 : ¬ ((p1 &&& (4 : Int32)) = (0 : Int32))) (f5 : (p1 &&& (8 : Int32)) = (0 : Int32)) (f6 : (p2 &&& (9223372036854775807 : Int64)) = jam) (f7 : ¬ ((lcmpW jam (0 : Int64)) < (0 : Int32))) (f8 : ¬ ((0 : Int32) < (lcmpW jam (9223372036854775807 : Int64)))) (f9 : ¬ ((lcmpW jam (-128 : Int64)) < (0 : Int32))) (f10 : S_0 Z h0 (.ref a_cache)) (f11 : OwnAll Z h0 a_cache "java/lang/Long") (f12 : E_0 Z h0 a_cache) :
    MetFree l x (head1 (Jvm.Cond.code x code maxLocals ret :: ws) room_1) (fun a U => a = #[(.int p0), (.int p1), (.long p2)] ∧ Z.Warmed39 U.vm ∧ U.heap = h0) (fun _ _ _ _ _ => True) (fun _ U o U' => ∃ v L, o = .returned v ∧ QT n0 v U'.heap L ∧ FrameEnd U o U' L room_1.cells room_1.slots) := by
  refine MetFree.of_bodySF (plainFor_of_name pn_hexwright_engine_SealedBidsHasBidPinLaw) hisR ?_
  intro p e s m args below meth c s₁ Bd hml0 hP hK
  obtain ⟨rfl, hZ, hh⟩ := hP
  have hx := Bd.exec
  have hby := Bd.bytes
  have hml : c.maxLocals = 15 := hml0
  have hown : s.vm.findClass "hexwright/engine/SealedBidsHasBidPinLaw" = some m.cls := findClass_of_methodNamed Bd.named
  have hnm := (name_of_methodNamed Bd.named Bd.method).1
  have X0 : Stand p l e room_1 s m #[(.int p0), (.int p1), (.long p2)] below meth c s₁ [] 0 0 := Stand.of_body Bd
  have e0 : s₁.heap = h0 := by rw [← hh, Bd.state]; rfl
  have N0 := Fr.nil n0
  obtain ⟨T1, L1, X1, e1, N1, st1⟩ := sg7_27 p0 p1 p2 (4 : Int32) X0 hx hZ hw hby hml hown e0 N0 Z0 f2
  obtain ⟨T2, L2, X2, e2, N2, st2⟩ := sg20_253 p0 p1 p2 (1 : Int32) X1 hx hZ hw hby hml hown e1 N1 Z0 f3
  obtain ⟨T3, L3, X3, e3, N3, st3⟩ := sg39_234 p0 p1 p2 (1 : Int32) (1 : Int32) X2 hx hZ hw hby hml hown e2 N2 Z0 f4
  obtain ⟨T4, L4, X4, e4, N4, st4⟩ := sg58_196 p0 p1 p2 (1 : Int32) (1 : Int32) (1 : Int32) X3 hx hZ hw hby hml hown e3 N3 Z0 f5
  obtain ⟨T5, L5, X5, e5, N5, st5⟩ := sg78_5 p0 p1 p2 (4 : Int32) (1 : Int32) (1 : Int32) (1 : Int32) (0 : Int32) jam X4 hx hZ hw hby hml hown e4 N4 Z0 f6
  obtain ⟨T6, h6, L6, b329, b330, kc331, X6, e6, N6, K6, le_b329, le_b330, o6_0, o6_1, o6_2, o6_3, o6_4, st6⟩ := sg90_204 p0 p1 p2 (1 : Int32) (1 : Int32) (1 : Int32) (0 : Int32) jam (9223372036854775807 : Int64) X5 hx hZ hw hby hml hown e5 N5 Z0 
  have sz_b329 : h0.size ≤ b329 := Nat.le_trans (Nat.le_refl _) le_b329
  have g_b329 : n0 ≤ b329 := Nat.le_trans Z0 sz_b329
  have sz_b330 : h0.size ≤ b330 := Nat.le_trans (Nat.le_refl _) le_b330
  have g_b330 : n0 ≤ b330 := Nat.le_trans Z0 sz_b330
  have KK6 : Keep h0 h6 [] := (Keep.refl h0 []).trans K6 (fun x hx => nomatch hx)
  have u8 : S_0 Z h6 (.ref a_cache) := own_sta_keep f10 K6 (fun _ q => nomatch q)
  have u9 : OwnAll Z h6 a_cache "java/lang/Long" := own_all_keep f11 K6 List.not_mem_nil
  obtain ⟨T7, h7, L7, bx332, X7, e7, N7, K7, o7_0, st7⟩ := sg101_292 p0 p1 p2 (4 : Int32) (1 : Int32) (1 : Int32) (0 : Int32) jam b329 b330 kc331 .null .null .null a_cache X6 hx hZ hw hby hml hown e6 N6 (Nat.le_trans Z0 KK6.1) o6_1 o6_2 f7 f8 f9 u8 u9 g_b330 o6_3 o6_0
  have KK7 : Keep h0 h7 [] := KK6.trans K7 (fun x hx => (List.mem_cons.mp hx).elim (fun q => q ▸ (Or.inr sz_b330)) (fun hx => nomatch hx))
  have u11 : F_0 Z h7 b329 (.ref b330) := Fld.keep o6_1 K7 (own_notin o6_4 List.not_mem_nil)
  have u12 : S_0 Z h7 (.ref a_cache) := own_sta_keep u8 K7 (own_ns (Arv.nostat o6_2) (fun _ q => nomatch q))
  have ne13 : a_cache ≠ b330 := Nat.ne_of_lt (Nat.lt_of_lt_of_le (Exa.lt f12) le_b330)
  have u14 : OwnAll Z h7 a_cache "java/lang/Long" := own_all_keep u9 K7 (own_notin ne13 List.not_mem_nil)
  have u15 : E_1 Z h7 b329 := Exa.keep o6_0 K7
  obtain ⟨T10, h10, L10, bx333, X10, e10, N10, K10, o10_0, st10⟩ := sg116_261 p0 p1 p2 (4 : Int32) (1 : Int32) (1 : Int32) (0 : Int32) jam b329 b330 kc331 (.ref bx332) .null .null a_cache X7 hx hZ hw hby hml hown e7 N7 (Nat.le_trans Z0 KK7.1) u11 o7_0 f7 f8 f9 u12 u14 g_b330 o6_3 u15
  have KK10 : Keep h0 h10 [] := KK7.trans K10 (fun x hx => (List.mem_cons.mp hx).elim (fun q => q ▸ (Or.inr sz_b330)) (fun hx => nomatch hx))
  have u17 : F_0 Z h10 b329 (.ref b330) := Fld.keep u11 K10 (own_notin o6_4 List.not_mem_nil)
  have u18 : S_0 Z h10 (.ref a_cache) := own_sta_keep u12 K10 (own_ns (Arv.nostat o7_0) (fun _ q => nomatch q))
  have u19 : OwnAll Z h10 a_cache "java/lang/Long" := own_all_keep u14 K10 (own_notin ne13 List.not_mem_nil)
  have u20 : E_1 Z h10 b329 := Exa.keep u15 K10
  obtain ⟨T16, h16, L16, bx334, X16, e16, N16, K16, o16_0, st16⟩ := sg131_242 p0 p1 p2 (4 : Int32) (1 : Int32) (1 : Int32) (0 : Int32) jam b329 b330 kc331 (.ref bx332) (.ref bx333) .null a_cache X10 hx hZ hw hby hml hown e10 N10 (Nat.le_trans Z0 KK10.1) u17 o10_0 f7 f8 f9 u18 u19 g_b330 o6_3 u20
  have KK16 : Keep h0 h16 [] := KK10.trans K16 (fun x hx => (List.mem_cons.mp hx).elim (fun q => q ▸ (Or.inr sz_b330)) (fun hx => nomatch hx))
  obtain ⟨T21, L21, X21, e21, N21, st21⟩ := sg146_211 p0 p1 p2 (4 : Int32) (1 : Int32) (1 : Int32) (1 : Int32) jam b329 X16 hx hZ hw hby hml hown e16 N16 (Nat.le_trans Z0 KK16.1) 
  have u23 : F_0 Z h16 b329 (.ref b330) := Fld.keep u17 K16 (own_notin o6_4 List.not_mem_nil)
  have u24 : E_1 Z h16 b329 := Exa.keep u20 K16
  obtain ⟨T22, L22, X22, e22, N22, st22⟩ := sg161_295 p0 p1 p2 (4 : Int32) (1 : Int32) (1 : Int32) (0 : Int32) jam (9223372036854775807 : Int64) b329 b330 kc331 bx332 (.ref bx333) (.ref bx334) .null X21 hx hZ hw hby hml hown e21 N21 (Nat.le_trans Z0 KK16.1) u23 o16_0 u24
  obtain ⟨T25, L25, X25, e25, N25, st25⟩ := sg179_264 p0 p1 p2 (1 : Int32) (1 : Int32) (0 : Int32) jam (9223372036854775807 : Int64) b329 b330 kc331 (.ref bx332) bx333 (.ref bx334) .null X22 hx hZ hw hby hml hown e22 N22 (Nat.le_trans Z0 KK16.1) u23 o16_0 u24
  obtain ⟨T26, L26, X26, e26, N26, st26⟩ := sg208_245 p0 p1 p2 (1 : Int32) (1 : Int32) (0 : Int32) jam (9223372036854775807 : Int64) b329 b330 kc331 (.ref bx332) (.ref bx333) bx334 .null X25 hx hZ hw hby hml hown e25 N25 (Nat.le_trans Z0 KK16.1) u23 o16_0 u24
  obtain ⟨T27, L27, X27, e27, N27, st27⟩ := sg237_219 p0 p1 p2 (1 : Int32) (1 : Int32) (1 : Int32) jam (9223372036854775807 : Int64) b329 b330 kc331 (.ref bx332) (.ref bx333) (.ref bx334) X26 hx hZ hw hby hml hown e26 N26 (Nat.le_trans Z0 KK16.1) u23 o16_0 u24
  obtain ⟨fs, hr, hrun, hended, hW, hsame⟩ := X27.leave (v := (some (.int 1))) (fun h => by rw [Bd.returns] at h; cases h)
  refine ⟨_, _, castTop (ef0_IIJ m p0 p1 p2) ?_, hrun, hended, _, _, rfl, ?_, ⟨_, rfl⟩, hW, hsame.mono (by decide) (by decide)⟩
  · show Steps p.tables e below (s₁.setTop (mkF m 0 #[.val (.int p0), .val (.int p1), .val (.long p2), .second, .unset, .unset, .unset, .unset, .unset, .unset, .unset, .unset, .unset, .unset, .unset] [])) _
    refine XS.iloadN X0.here hx rfl (hb hby at_0) rfl ?_
    refine XS.iconst X0.here hx rfl (hb hby at_1) ?_
    show Steps p.tables e below (s₁.setTop (mkF m 2 #[.val (.int p0), .val (.int p1), .val (.long p2), .second, .unset, .unset, .unset, .unset, .unset, .unset, .unset, .unset, .unset, .unset, .unset] [(.int 3), (.int p0)])) _
    refine XS.iand X0.here hx rfl (hb hby at_2) rfl ?_
    show Steps p.tables e below (s₁.setTop (mkF m 3 #[.val (.int p0), .val (.int p1), .val (.long p2), .second, .unset, .unset, .unset, .unset, .unset, .unset, .unset, .unset, .unset, .unset, .unset] [(.int (p0 &&& (3 : Int32)))])) _
    rw [f1]
    refine XS.iconst X0.here hx rfl (hb hby at_3) ?_
    show Steps p.tables e below (s₁.setTop (mkF m 4 #[.val (.int p0), .val (.int p1), .val (.long p2), .second, .unset, .unset, .unset, .unset, .unset, .unset, .unset, .unset, .unset, .unset, .unset] [(.int 1), (.int 3)])) _
    refine XS.iadd X0.here hx rfl (hb hby at_4) rfl ?_
    show Steps p.tables e below (s₁.setTop (mkF m 5 #[.val (.int p0), .val (.int p1), .val (.long p2), .second, .unset, .unset, .unset, .unset, .unset, .unset, .unset, .unset, .unset, .unset, .unset] [(.int ((3 : Int32) + (1 : Int32)))])) _
    rw [show ((3 : Int32) + (1 : Int32)) = (4 : Int32) from by decide]
    refine XS.istore X0.here hx rfl (hb hby at_5) rfl (l' := #[.val (.int p0), .val (.int p1), .val (.long p2), .second, .val (.int 4), .unset, .unset, .unset, .unset, .unset, .unset, .unset, .unset, .unset, .unset]) rfl ?_
    show Steps p.tables e below (s₁.setTop (mkF m 7 #[.val (.int p0), .val (.int p1), .val (.long p2), .second, .val (.int 4), .unset, .unset, .unset, .unset, .unset, .unset, .unset, .unset, .unset, .unset] [])) _
    refine st1 _ ?_
    show Steps p.tables e below (T1.setTop (mkF m 20 #[.val (.int p0), .val (.int p1), .val (.long p2), .second, .val (.int 4), .val (.int 1), .unset, .unset, .unset, .unset, .unset, .unset, .unset, .unset, .unset] [])) _
    refine st2 _ ?_
    show Steps p.tables e below (T2.setTop (mkF m 39 #[.val (.int p0), .val (.int p1), .val (.long p2), .second, .val (.int 4), .val (.int 1), .val (.int 1), .unset, .unset, .unset, .unset, .unset, .unset, .unset, .unset] [])) _
    refine st3 _ ?_
    show Steps p.tables e below (T3.setTop (mkF m 58 #[.val (.int p0), .val (.int p1), .val (.long p2), .second, .val (.int 4), .val (.int 1), .val (.int 1), .val (.int 1), .unset, .unset, .unset, .unset, .unset, .unset, .unset] [])) _
    refine st4 _ ?_
    show Steps p.tables e below (T4.setTop (mkF m 78 #[.val (.int p0), .val (.int p1), .val (.long p2), .second, .val (.int 4), .val (.int 1), .val (.int 1), .val (.int 1), .val (.int 0), .unset, .unset, .unset, .unset, .unset, .unset] [])) _
    refine st5 _ ?_
    show Steps p.tables e below (T5.setTop (mkF m 90 #[.val (.int p0), .val (.int p1), .val (.long p2), .second, .val (.int 4), .val (.int 1), .val (.int 1), .val (.int 1), .val (.int 0), .val (.long jam), .second, .val (.long 9223372036854775807), .second, .unset, .unset] [])) _
    refine st6 _ ?_
    show Steps p.tables e below (T6.setTop (mkF m 101 #[.val (.int p0), .val (.int p1), .val (.long p2), .second, .val (.int 4), .val (.int 1), .val (.int 1), .val (.int 1), .val (.int 0), .val (.long jam), .second, .val (.long 9223372036854775807), .second, .val (.ref b329), .unset] [])) _
    refine st7 _ ?_
    show Steps p.tables e below (T7.setTop (mkF m 116 #[.val (.int p0), .val (.int p1), .val (.long p2), .second, .val (.int 4), .val (.int 1), .val (.int 1), .val (.int 1), .val (.int 0), .val (.long jam), .second, .val (.long 9223372036854775807), .second, .val (.ref b329), .unset] [])) _
    refine st10 _ ?_
    show Steps p.tables e below (T10.setTop (mkF m 131 #[.val (.int p0), .val (.int p1), .val (.long p2), .second, .val (.int 4), .val (.int 1), .val (.int 1), .val (.int 1), .val (.int 0), .val (.long jam), .second, .val (.long 9223372036854775807), .second, .val (.ref b329), .unset] [])) _
    refine st16 _ ?_
    show Steps p.tables e below (T16.setTop (mkF m 146 #[.val (.int p0), .val (.int p1), .val (.long p2), .second, .val (.int 4), .val (.int 1), .val (.int 1), .val (.int 1), .val (.int 0), .val (.long jam), .second, .val (.long 9223372036854775807), .second, .val (.ref b329), .unset] [])) _
    refine st21 _ ?_
    show Steps p.tables e below (T21.setTop (mkF m 161 #[.val (.int p0), .val (.int p1), .val (.long p2), .second, .val (.int 4), .val (.int 1), .val (.int 1), .val (.int 1), .val (.int 0), .val (.long jam), .second, .val (.long 9223372036854775807), .second, .val (.ref b329), .unset] [])) _
    refine st22 _ ?_
    show Steps p.tables e below (T22.setTop (mkF m 179 #[.val (.int p0), .val (.int p1), .val (.long p2), .second, .val (.int 4), .val (.int 1), .val (.int 1), .val (.int 1), .val (.int 0), .val (.long jam), .second, .val (.long 9223372036854775807), .second, .val (.ref b329), .val (.int 1)] [])) _
    refine st25 _ ?_
    show Steps p.tables e below (T25.setTop (mkF m 208 #[.val (.int p0), .val (.int p1), .val (.long p2), .second, .val (.int 4), .val (.int 1), .val (.int 1), .val (.int 1), .val (.int 0), .val (.long jam), .second, .val (.long 9223372036854775807), .second, .val (.ref b329), .val (.int 1)] [])) _
    refine st26 _ ?_
    show Steps p.tables e below (T26.setTop (mkF m 237 #[.val (.int p0), .val (.int p1), .val (.long p2), .second, .val (.int 4), .val (.int 1), .val (.int 1), .val (.int 1), .val (.int 0), .val (.long jam), .second, .val (.long 9223372036854775807), .second, .val (.ref b329), .val (.int 1)] [])) _
    refine st27 _ ?_
    refine XS.iload X27.here hx rfl (hb hby at_266) rfl ?_
    show Steps p.tables e below (T27.setTop (mkF m 268 #[.val (.int p0), .val (.int p1), .val (.long p2), .second, .val (.int 4), .val (.int 1), .val (.int 1), .val (.int 1), .val (.int 0), .val (.long jam), .second, .val (.long 9223372036854775807), .second, .val (.ref b329), .val (.int 1)] [(.int 1)])) _
    exact retN X27 hx (t := .boolean) Bd.returns (by simp) (hb hby at_268) hr
  · show QT n0 _ T27.heap _
    rw [e27]
    exact ⟨rfl, N27⟩
set_option maxRecDepth 65536 in
set_option maxHeartbeats 40000000 in
theorem rm0_343 (l : Launch) (Z : State) (a0 : Array Value) (hw : ∀ d ∈ tables_1, d.before a0 Z = true) (ws : List Jvm.Cond) (p0 : Int32) (p1 : Int32) (p2 : Int64) (jam : Int64) (a_cache : Addr) (h0 : Heap) (n0 : Nat) (Z0 : n0 ≤ h0.size) (f1 : (p0 &&& (3 : Int32)) = (3 : Int32)) (f2 : ¬ ((p1 &&& (1 : Int32)) = (0 : Int32))) (f3 : ¬ ((p1 &&& (2 : Int32)) = (0 : Int32))) (f4 : ¬ ((p1 &&& (4 : Int32)) = (0 : Int32))) (f5 : ¬ ((p1 &&& (8 : Int32)) = (0 : Int32))) (f6 : (p2 &&& (9223372036854775807 : Int64)) = jam) (f7 : ¬ ((lcmpW jam (0 : Int64)) < (0 : Int32))) (f8 : ¬ ((0 : Int32) < (lcmpW jam (9223372036854775807 : Int64)))) (f9 : ¬ ((lcmpW jam (-128 : Int64)) < (0 : Int32))) (f10 : S_0 Z h0 (.ref a_cache)) (f11 : OwnAll Z h0 a_cache "java/lang/Long") (f12 : E_0 Z h0 a_cache) :
    MetFree l x (head1 (Jvm.Cond.code x code maxLocals ret :: ws) room_1) (fun a U => a = #[(.int p0), (.int p1), (.long p2)] ∧ Z.Warmed39 U.vm ∧ U.heap = h0) (fun _ _ _ _ _ => True) (fun _ U o U' => ∃ v L, o = .returned v ∧ QT n0 v U'.heap L ∧ FrameEnd U o U' L room_1.cells room_1.slots) := by
  refine MetFree.of_bodySF (plainFor_of_name pn_hexwright_engine_SealedBidsHasBidPinLaw) hisR ?_
  intro p e s m args below meth c s₁ Bd hml0 hP hK
  obtain ⟨rfl, hZ, hh⟩ := hP
  have hx := Bd.exec
  have hby := Bd.bytes
  have hml : c.maxLocals = 15 := hml0
  have hown : s.vm.findClass "hexwright/engine/SealedBidsHasBidPinLaw" = some m.cls := findClass_of_methodNamed Bd.named
  have hnm := (name_of_methodNamed Bd.named Bd.method).1
  have X0 : Stand p l e room_1 s m #[(.int p0), (.int p1), (.long p2)] below meth c s₁ [] 0 0 := Stand.of_body Bd
  have e0 : s₁.heap = h0 := by rw [← hh, Bd.state]; rfl
  have N0 := Fr.nil n0
  obtain ⟨T1, L1, X1, e1, N1, st1⟩ := sg7_27 p0 p1 p2 (4 : Int32) X0 hx hZ hw hby hml hown e0 N0 Z0 f2
  obtain ⟨T2, L2, X2, e2, N2, st2⟩ := sg20_253 p0 p1 p2 (1 : Int32) X1 hx hZ hw hby hml hown e1 N1 Z0 f3
  obtain ⟨T3, L3, X3, e3, N3, st3⟩ := sg39_234 p0 p1 p2 (1 : Int32) (1 : Int32) X2 hx hZ hw hby hml hown e2 N2 Z0 f4
  obtain ⟨T4, L4, X4, e4, N4, st4⟩ := sg58_221 p0 p1 p2 (1 : Int32) (1 : Int32) (1 : Int32) X3 hx hZ hw hby hml hown e3 N3 Z0 f5
  obtain ⟨T5, L5, X5, e5, N5, st5⟩ := sg78_5 p0 p1 p2 (4 : Int32) (1 : Int32) (1 : Int32) (1 : Int32) (1 : Int32) jam X4 hx hZ hw hby hml hown e4 N4 Z0 f6
  obtain ⟨T6, h6, L6, b336, b337, kc338, X6, e6, N6, K6, le_b336, le_b337, o6_0, o6_1, o6_2, o6_3, o6_4, st6⟩ := sg90_204 p0 p1 p2 (1 : Int32) (1 : Int32) (1 : Int32) (1 : Int32) jam (9223372036854775807 : Int64) X5 hx hZ hw hby hml hown e5 N5 Z0 
  have sz_b336 : h0.size ≤ b336 := Nat.le_trans (Nat.le_refl _) le_b336
  have g_b336 : n0 ≤ b336 := Nat.le_trans Z0 sz_b336
  have sz_b337 : h0.size ≤ b337 := Nat.le_trans (Nat.le_refl _) le_b337
  have g_b337 : n0 ≤ b337 := Nat.le_trans Z0 sz_b337
  have KK6 : Keep h0 h6 [] := (Keep.refl h0 []).trans K6 (fun x hx => nomatch hx)
  have u8 : S_0 Z h6 (.ref a_cache) := own_sta_keep f10 K6 (fun _ q => nomatch q)
  have u9 : OwnAll Z h6 a_cache "java/lang/Long" := own_all_keep f11 K6 List.not_mem_nil
  obtain ⟨T7, h7, L7, bx339, X7, e7, N7, K7, o7_0, st7⟩ := sg101_292 p0 p1 p2 (4 : Int32) (1 : Int32) (1 : Int32) (1 : Int32) jam b336 b337 kc338 .null .null .null a_cache X6 hx hZ hw hby hml hown e6 N6 (Nat.le_trans Z0 KK6.1) o6_1 o6_2 f7 f8 f9 u8 u9 g_b337 o6_3 o6_0
  have KK7 : Keep h0 h7 [] := KK6.trans K7 (fun x hx => (List.mem_cons.mp hx).elim (fun q => q ▸ (Or.inr sz_b337)) (fun hx => nomatch hx))
  have u11 : F_0 Z h7 b336 (.ref b337) := Fld.keep o6_1 K7 (own_notin o6_4 List.not_mem_nil)
  have u12 : S_0 Z h7 (.ref a_cache) := own_sta_keep u8 K7 (own_ns (Arv.nostat o6_2) (fun _ q => nomatch q))
  have ne13 : a_cache ≠ b337 := Nat.ne_of_lt (Nat.lt_of_lt_of_le (Exa.lt f12) le_b337)
  have u14 : OwnAll Z h7 a_cache "java/lang/Long" := own_all_keep u9 K7 (own_notin ne13 List.not_mem_nil)
  have u15 : E_1 Z h7 b336 := Exa.keep o6_0 K7
  obtain ⟨T10, h10, L10, bx340, X10, e10, N10, K10, o10_0, st10⟩ := sg116_261 p0 p1 p2 (4 : Int32) (1 : Int32) (1 : Int32) (1 : Int32) jam b336 b337 kc338 (.ref bx339) .null .null a_cache X7 hx hZ hw hby hml hown e7 N7 (Nat.le_trans Z0 KK7.1) u11 o7_0 f7 f8 f9 u12 u14 g_b337 o6_3 u15
  have KK10 : Keep h0 h10 [] := KK7.trans K10 (fun x hx => (List.mem_cons.mp hx).elim (fun q => q ▸ (Or.inr sz_b337)) (fun hx => nomatch hx))
  have u17 : F_0 Z h10 b336 (.ref b337) := Fld.keep u11 K10 (own_notin o6_4 List.not_mem_nil)
  have u18 : S_0 Z h10 (.ref a_cache) := own_sta_keep u12 K10 (own_ns (Arv.nostat o7_0) (fun _ q => nomatch q))
  have u19 : OwnAll Z h10 a_cache "java/lang/Long" := own_all_keep u14 K10 (own_notin ne13 List.not_mem_nil)
  have u20 : E_1 Z h10 b336 := Exa.keep u15 K10
  obtain ⟨T16, h16, L16, bx341, X16, e16, N16, K16, o16_0, st16⟩ := sg131_242 p0 p1 p2 (4 : Int32) (1 : Int32) (1 : Int32) (1 : Int32) jam b336 b337 kc338 (.ref bx339) (.ref bx340) .null a_cache X10 hx hZ hw hby hml hown e10 N10 (Nat.le_trans Z0 KK10.1) u17 o10_0 f7 f8 f9 u18 u19 g_b337 o6_3 u20
  have KK16 : Keep h0 h16 [] := KK10.trans K16 (fun x hx => (List.mem_cons.mp hx).elim (fun q => q ▸ (Or.inr sz_b337)) (fun hx => nomatch hx))
  have u22 : F_0 Z h16 b336 (.ref b337) := Fld.keep u17 K16 (own_notin o6_4 List.not_mem_nil)
  have u23 : S_0 Z h16 (.ref a_cache) := own_sta_keep u18 K16 (own_ns (Arv.nostat o10_0) (fun _ q => nomatch q))
  have u24 : OwnAll Z h16 a_cache "java/lang/Long" := own_all_keep u19 K16 (own_notin ne13 List.not_mem_nil)
  have u25 : E_1 Z h16 b336 := Exa.keep u20 K16
  obtain ⟨T21, h21, L21, bx342, X21, e21, N21, K21, o21_0, st21⟩ := sg146_229 p0 p1 p2 (4 : Int32) (1 : Int32) (1 : Int32) (1 : Int32) jam b336 b337 kc338 (.ref bx339) (.ref bx340) (.ref bx341) a_cache X16 hx hZ hw hby hml hown e16 N16 (Nat.le_trans Z0 KK16.1) u22 o16_0 f7 f8 f9 u23 u24 g_b337 o6_3 u25
  have KK21 : Keep h0 h21 [] := KK16.trans K21 (fun x hx => (List.mem_cons.mp hx).elim (fun q => q ▸ (Or.inr sz_b337)) (fun hx => nomatch hx))
  have u27 : F_0 Z h21 b336 (.ref b337) := Fld.keep u22 K21 (own_notin o6_4 List.not_mem_nil)
  have u28 : E_1 Z h21 b336 := Exa.keep u25 K21
  obtain ⟨T26, L26, X26, e26, N26, st26⟩ := sg161_295 p0 p1 p2 (4 : Int32) (1 : Int32) (1 : Int32) (1 : Int32) jam (9223372036854775807 : Int64) b336 b337 kc338 bx339 (.ref bx340) (.ref bx341) (.ref bx342) X21 hx hZ hw hby hml hown e21 N21 (Nat.le_trans Z0 KK21.1) u27 o21_0 u28
  obtain ⟨T29, L29, X29, e29, N29, st29⟩ := sg179_264 p0 p1 p2 (1 : Int32) (1 : Int32) (1 : Int32) jam (9223372036854775807 : Int64) b336 b337 kc338 (.ref bx339) bx340 (.ref bx341) (.ref bx342) X26 hx hZ hw hby hml hown e26 N26 (Nat.le_trans Z0 KK21.1) u27 o21_0 u28
  obtain ⟨T30, L30, X30, e30, N30, st30⟩ := sg208_245 p0 p1 p2 (1 : Int32) (1 : Int32) (1 : Int32) jam (9223372036854775807 : Int64) b336 b337 kc338 (.ref bx339) (.ref bx340) bx341 (.ref bx342) X29 hx hZ hw hby hml hown e29 N29 (Nat.le_trans Z0 KK21.1) u27 o21_0 u28
  obtain ⟨T31, L31, X31, e31, N31, st31⟩ := sg237_232 p0 p1 p2 (1 : Int32) (1 : Int32) (1 : Int32) jam (9223372036854775807 : Int64) b336 b337 kc338 (.ref bx339) (.ref bx340) (.ref bx341) bx342 X30 hx hZ hw hby hml hown e30 N30 (Nat.le_trans Z0 KK21.1) u27 o21_0 u28
  obtain ⟨fs, hr, hrun, hended, hW, hsame⟩ := X31.leave (v := (some (.int 1))) (fun h => by rw [Bd.returns] at h; cases h)
  refine ⟨_, _, castTop (ef0_IIJ m p0 p1 p2) ?_, hrun, hended, _, _, rfl, ?_, ⟨_, rfl⟩, hW, hsame.mono (by decide) (by decide)⟩
  · show Steps p.tables e below (s₁.setTop (mkF m 0 #[.val (.int p0), .val (.int p1), .val (.long p2), .second, .unset, .unset, .unset, .unset, .unset, .unset, .unset, .unset, .unset, .unset, .unset] [])) _
    refine XS.iloadN X0.here hx rfl (hb hby at_0) rfl ?_
    refine XS.iconst X0.here hx rfl (hb hby at_1) ?_
    show Steps p.tables e below (s₁.setTop (mkF m 2 #[.val (.int p0), .val (.int p1), .val (.long p2), .second, .unset, .unset, .unset, .unset, .unset, .unset, .unset, .unset, .unset, .unset, .unset] [(.int 3), (.int p0)])) _
    refine XS.iand X0.here hx rfl (hb hby at_2) rfl ?_
    show Steps p.tables e below (s₁.setTop (mkF m 3 #[.val (.int p0), .val (.int p1), .val (.long p2), .second, .unset, .unset, .unset, .unset, .unset, .unset, .unset, .unset, .unset, .unset, .unset] [(.int (p0 &&& (3 : Int32)))])) _
    rw [f1]
    refine XS.iconst X0.here hx rfl (hb hby at_3) ?_
    show Steps p.tables e below (s₁.setTop (mkF m 4 #[.val (.int p0), .val (.int p1), .val (.long p2), .second, .unset, .unset, .unset, .unset, .unset, .unset, .unset, .unset, .unset, .unset, .unset] [(.int 1), (.int 3)])) _
    refine XS.iadd X0.here hx rfl (hb hby at_4) rfl ?_
    show Steps p.tables e below (s₁.setTop (mkF m 5 #[.val (.int p0), .val (.int p1), .val (.long p2), .second, .unset, .unset, .unset, .unset, .unset, .unset, .unset, .unset, .unset, .unset, .unset] [(.int ((3 : Int32) + (1 : Int32)))])) _
    rw [show ((3 : Int32) + (1 : Int32)) = (4 : Int32) from by decide]
    refine XS.istore X0.here hx rfl (hb hby at_5) rfl (l' := #[.val (.int p0), .val (.int p1), .val (.long p2), .second, .val (.int 4), .unset, .unset, .unset, .unset, .unset, .unset, .unset, .unset, .unset, .unset]) rfl ?_
    show Steps p.tables e below (s₁.setTop (mkF m 7 #[.val (.int p0), .val (.int p1), .val (.long p2), .second, .val (.int 4), .unset, .unset, .unset, .unset, .unset, .unset, .unset, .unset, .unset, .unset] [])) _
    refine st1 _ ?_
    show Steps p.tables e below (T1.setTop (mkF m 20 #[.val (.int p0), .val (.int p1), .val (.long p2), .second, .val (.int 4), .val (.int 1), .unset, .unset, .unset, .unset, .unset, .unset, .unset, .unset, .unset] [])) _
    refine st2 _ ?_
    show Steps p.tables e below (T2.setTop (mkF m 39 #[.val (.int p0), .val (.int p1), .val (.long p2), .second, .val (.int 4), .val (.int 1), .val (.int 1), .unset, .unset, .unset, .unset, .unset, .unset, .unset, .unset] [])) _
    refine st3 _ ?_
    show Steps p.tables e below (T3.setTop (mkF m 58 #[.val (.int p0), .val (.int p1), .val (.long p2), .second, .val (.int 4), .val (.int 1), .val (.int 1), .val (.int 1), .unset, .unset, .unset, .unset, .unset, .unset, .unset] [])) _
    refine st4 _ ?_
    show Steps p.tables e below (T4.setTop (mkF m 78 #[.val (.int p0), .val (.int p1), .val (.long p2), .second, .val (.int 4), .val (.int 1), .val (.int 1), .val (.int 1), .val (.int 1), .unset, .unset, .unset, .unset, .unset, .unset] [])) _
    refine st5 _ ?_
    show Steps p.tables e below (T5.setTop (mkF m 90 #[.val (.int p0), .val (.int p1), .val (.long p2), .second, .val (.int 4), .val (.int 1), .val (.int 1), .val (.int 1), .val (.int 1), .val (.long jam), .second, .val (.long 9223372036854775807), .second, .unset, .unset] [])) _
    refine st6 _ ?_
    show Steps p.tables e below (T6.setTop (mkF m 101 #[.val (.int p0), .val (.int p1), .val (.long p2), .second, .val (.int 4), .val (.int 1), .val (.int 1), .val (.int 1), .val (.int 1), .val (.long jam), .second, .val (.long 9223372036854775807), .second, .val (.ref b336), .unset] [])) _
    refine st7 _ ?_
    show Steps p.tables e below (T7.setTop (mkF m 116 #[.val (.int p0), .val (.int p1), .val (.long p2), .second, .val (.int 4), .val (.int 1), .val (.int 1), .val (.int 1), .val (.int 1), .val (.long jam), .second, .val (.long 9223372036854775807), .second, .val (.ref b336), .unset] [])) _
    refine st10 _ ?_
    show Steps p.tables e below (T10.setTop (mkF m 131 #[.val (.int p0), .val (.int p1), .val (.long p2), .second, .val (.int 4), .val (.int 1), .val (.int 1), .val (.int 1), .val (.int 1), .val (.long jam), .second, .val (.long 9223372036854775807), .second, .val (.ref b336), .unset] [])) _
    refine st16 _ ?_
    show Steps p.tables e below (T16.setTop (mkF m 146 #[.val (.int p0), .val (.int p1), .val (.long p2), .second, .val (.int 4), .val (.int 1), .val (.int 1), .val (.int 1), .val (.int 1), .val (.long jam), .second, .val (.long 9223372036854775807), .second, .val (.ref b336), .unset] [])) _
    refine st21 _ ?_
    show Steps p.tables e below (T21.setTop (mkF m 161 #[.val (.int p0), .val (.int p1), .val (.long p2), .second, .val (.int 4), .val (.int 1), .val (.int 1), .val (.int 1), .val (.int 1), .val (.long jam), .second, .val (.long 9223372036854775807), .second, .val (.ref b336), .unset] [])) _
    refine st26 _ ?_
    show Steps p.tables e below (T26.setTop (mkF m 179 #[.val (.int p0), .val (.int p1), .val (.long p2), .second, .val (.int 4), .val (.int 1), .val (.int 1), .val (.int 1), .val (.int 1), .val (.long jam), .second, .val (.long 9223372036854775807), .second, .val (.ref b336), .val (.int 1)] [])) _
    refine st29 _ ?_
    show Steps p.tables e below (T29.setTop (mkF m 208 #[.val (.int p0), .val (.int p1), .val (.long p2), .second, .val (.int 4), .val (.int 1), .val (.int 1), .val (.int 1), .val (.int 1), .val (.long jam), .second, .val (.long 9223372036854775807), .second, .val (.ref b336), .val (.int 1)] [])) _
    refine st30 _ ?_
    show Steps p.tables e below (T30.setTop (mkF m 237 #[.val (.int p0), .val (.int p1), .val (.long p2), .second, .val (.int 4), .val (.int 1), .val (.int 1), .val (.int 1), .val (.int 1), .val (.long jam), .second, .val (.long 9223372036854775807), .second, .val (.ref b336), .val (.int 1)] [])) _
    refine st31 _ ?_
    refine XS.iload X31.here hx rfl (hb hby at_266) rfl ?_
    show Steps p.tables e below (T31.setTop (mkF m 268 #[.val (.int p0), .val (.int p1), .val (.long p2), .second, .val (.int 4), .val (.int 1), .val (.int 1), .val (.int 1), .val (.int 1), .val (.long jam), .second, .val (.long 9223372036854775807), .second, .val (.ref b336), .val (.int 1)] [(.int 1)])) _
    exact retN X31 hx (t := .boolean) Bd.returns (by simp) (hb hby at_268) hr
  · show QT n0 _ T31.heap _
    rw [e31]
    exact ⟨rfl, N31⟩
set_option maxRecDepth 65536 in
set_option maxHeartbeats 40000000 in
theorem comes_1 {Post : Tables → Env → Array Value → State → Outcome → State → Prop} (hpost : ∀ tb e args s v u, (limb_1_1.after args s (.returned v) u = true ∧ limb_1_2.after args s (.returned v) u = true ∧ True) → FrameEnd s (.returned v) u (Jvm.fieldLocs frame_1_writes args s ++ Jvm.arrayLocs frame_1_arrays args s ++ Jvm.staticLocs frame_1_statics s) 24 128 → Post tb e args s (.returned v) u) :
    ArmFor flags0 classFile x code maxLocals ret World_1 tables_1 room_1 Calls_1 rest_1 Pre_1 Post := by
  intro l hfl _ _ p e ha hc hk s m args below hf hA hF happ hP
  obtain ⟨hcalls, hrest, hpre⟩ := hP
  obtain ⟨-, -, -, hnamed, -, -, -, hat⟩ := (Spec.applies_iff hf).mp happ
  obtain ⟨hg, hn⟩ := and_e (Cond.before_iff.mp (show (Jvm.Cond.and given_1 narrow_1).before args s = true from hpre))
  obtain ⟨k344, k345⟩ := and_e hg
  obtain ⟨k346, k347⟩ := and_e k345
  obtain ⟨k348, k349⟩ := and_e k347
  obtain ⟨w0, w1, w2, rfl⟩ : ∃ w0 w1 w2 : Value, args = #[w0, w1, w2] := by
    have hs : args.size = 3 := by simpa [Cond.value, given_1] using k344
    obtain ⟨L⟩ := args
    match L, hs with
    | [w0, w1, w2], _ => exact ⟨w0, w1, w2, rfl⟩
  have hw := fun d (hd : d ∈ tables_1) => atoms_spec (ws := Jvm.Cond.code x code maxLocals ret :: tables_1) hat d (List.mem_cons_of_mem _ hd)
  have hfit : Fit s := fun {y c} hc i hi => by
    obtain ⟨ha, rfl⟩ := Array.getElem?_eq_some_iff.mp hc
    have q := List.all_eq_true.mp ((Array.all_eq_true_iff_forall_mem.mp hF) _ (Array.getElem_mem ha)) i (List.mem_range.mpr hi)
    simpa [Array.getElem?_eq_getElem hi] using q
  obtain ⟨p0, ei0⟩ := is_v k346
  obtain rfl : w0 = (.int p0) := Option.some.inj ei0
  obtain ⟨p1, ei1⟩ := is_v k348
  obtain rfl : w1 = (.int p1) := Option.some.inj ei1
  obtain ⟨p2, ei2⟩ := isL_v k349
  obtain rfl : w2 = (.long p2) := Option.some.inj ei2
  obtain ⟨hsets, hown0⟩ := atoms_of _ (rest_1_c_eq ▸ (show rest_1_c.before _ s = true from hrest))
  have hr0 := Cond.before_iff.mp hown0
  obtain ⟨a_cache, ev_a_cache⟩ := exa_v (Cond.before_iff.mp (hsets _ (List.mem_of_getElem? (i := 3) rfl)))
  have S_a_cache : Sta s s.heap "java/lang/Long$LongCache" "cache" "[Ljava/lang/Long;" (.ref a_cache) := Sta.start ev_a_cache (Or.inl (hsets _ (List.mem_of_getElem? (i := 1) rfl)))
  have E_a_cache : Exa s s.heap a_cache "[Ljava/lang/Long;" := Exa.start ev_a_cache (Cond.before_iff.mp (hsets _ (List.mem_of_getElem? (i := 3) rfl)))
  have A_a_cache : OwnAll s s.heap a_cache "java/lang/Long" := own_all_start (fun _ => ev_a_cache) (Cond.before_iff.mp (hsets _ (List.mem_of_getElem? (i := 2) rfl))) (hsets _ (List.mem_of_getElem? (i := 4) rfl)) (Cond.before_iff.mp (hsets _ (List.mem_of_getElem? (i := 5) rfl)))
  have M : MetFree l x (head1 (Jvm.Cond.code x code maxLocals ret :: tables_1) room_1) (fun a U => a = #[(.int p0), (.int p1), (.long p2)] ∧ s.Warmed39 U.vm ∧ U.heap = s.heap) (fun _ _ _ _ _ => True) (fun _ U o U' => ∃ v L, o = .returned v ∧ QT s.heap.size v U'.heap L ∧ FrameEnd U o U' L room_1.cells room_1.slots) := by
    obtain ⟨jam, hjam⟩ : ∃ r, (p2 &&& (9223372036854775807 : Int64)) = r := ⟨_, rfl⟩
    have hnn := own_nn p2
    rw [hjam] at hnn
    rcases own_and3 p0 with hk | hk | hk | hk
    · by_cases hb1 : (p1 &&& (1 : Int32)) = (0 : Int32)
      · exact rm0_26 l s _ hw tables_1 p0 p1 p2 jam s.heap s.heap.size (Nat.le_refl _) hk hb1 hjam
      · exact rm0_48 l s _ hw tables_1 p0 p1 p2 jam a_cache s.heap s.heap.size (Nat.le_refl _) hk hb1 hjam hnn.1 hnn.2.1 hnn.2.2 S_a_cache A_a_cache
    · by_cases hb1 : (p1 &&& (1 : Int32)) = (0 : Int32)
      · by_cases hb2 : (p1 &&& (2 : Int32)) = (0 : Int32)
        · exact rm0_73 l s _ hw tables_1 p0 p1 p2 jam s.heap s.heap.size (Nat.le_refl _) hk hb1 hb2 hjam
        · exact rm0_86 l s _ hw tables_1 p0 p1 p2 jam a_cache s.heap s.heap.size (Nat.le_refl _) hk hb1 hb2 hjam hnn.1 hnn.2.1 hnn.2.2 S_a_cache A_a_cache
      · by_cases hb2 : (p1 &&& (2 : Int32)) = (0 : Int32)
        · exact rm0_98 l s _ hw tables_1 p0 p1 p2 jam a_cache s.heap s.heap.size (Nat.le_refl _) hk hb1 hb2 hjam hnn.1 hnn.2.1 hnn.2.2 S_a_cache A_a_cache
        · exact rm0_104 l s _ hw tables_1 p0 p1 p2 jam a_cache s.heap s.heap.size (Nat.le_refl _) hk hb1 hb2 hjam hnn.1 hnn.2.1 hnn.2.2 S_a_cache A_a_cache E_a_cache
    · by_cases hb1 : (p1 &&& (1 : Int32)) = (0 : Int32)
      · by_cases hb2 : (p1 &&& (2 : Int32)) = (0 : Int32)
        · by_cases hb3 : (p1 &&& (4 : Int32)) = (0 : Int32)
          · exact rm0_130 l s _ hw tables_1 p0 p1 p2 jam s.heap s.heap.size (Nat.le_refl _) hk hb1 hb2 hb3 hjam
          · exact rm0_143 l s _ hw tables_1 p0 p1 p2 jam a_cache s.heap s.heap.size (Nat.le_refl _) hk hb1 hb2 hb3 hjam hnn.1 hnn.2.1 hnn.2.2 S_a_cache A_a_cache
        · by_cases hb3 : (p1 &&& (4 : Int32)) = (0 : Int32)
          · exact rm0_156 l s _ hw tables_1 p0 p1 p2 jam a_cache s.heap s.heap.size (Nat.le_refl _) hk hb1 hb2 hb3 hjam hnn.1 hnn.2.1 hnn.2.2 S_a_cache A_a_cache
          · exact rm0_162 l s _ hw tables_1 p0 p1 p2 jam a_cache s.heap s.heap.size (Nat.le_refl _) hk hb1 hb2 hb3 hjam hnn.1 hnn.2.1 hnn.2.2 S_a_cache A_a_cache E_a_cache
      · by_cases hb2 : (p1 &&& (2 : Int32)) = (0 : Int32)
        · by_cases hb3 : (p1 &&& (4 : Int32)) = (0 : Int32)
          · exact rm0_174 l s _ hw tables_1 p0 p1 p2 jam a_cache s.heap s.heap.size (Nat.le_refl _) hk hb1 hb2 hb3 hjam hnn.1 hnn.2.1 hnn.2.2 S_a_cache A_a_cache
          · exact rm0_180 l s _ hw tables_1 p0 p1 p2 jam a_cache s.heap s.heap.size (Nat.le_refl _) hk hb1 hb2 hb3 hjam hnn.1 hnn.2.1 hnn.2.2 S_a_cache A_a_cache E_a_cache
        · by_cases hb3 : (p1 &&& (4 : Int32)) = (0 : Int32)
          · exact rm0_186 l s _ hw tables_1 p0 p1 p2 jam a_cache s.heap s.heap.size (Nat.le_refl _) hk hb1 hb2 hb3 hjam hnn.1 hnn.2.1 hnn.2.2 S_a_cache A_a_cache E_a_cache
          · exact rm0_193 l s _ hw tables_1 p0 p1 p2 jam a_cache s.heap s.heap.size (Nat.le_refl _) hk hb1 hb2 hb3 hjam hnn.1 hnn.2.1 hnn.2.2 S_a_cache A_a_cache E_a_cache
    · by_cases hb1 : (p1 &&& (1 : Int32)) = (0 : Int32)
      · by_cases hb2 : (p1 &&& (2 : Int32)) = (0 : Int32)
        · by_cases hb3 : (p1 &&& (4 : Int32)) = (0 : Int32)
          · by_cases hb4 : (p1 &&& (8 : Int32)) = (0 : Int32)
            · exact rm0_220 l s _ hw tables_1 p0 p1 p2 jam s.heap s.heap.size (Nat.le_refl _) hk hb1 hb2 hb3 hb4 hjam
            · exact rm0_233 l s _ hw tables_1 p0 p1 p2 jam a_cache s.heap s.heap.size (Nat.le_refl _) hk hb1 hb2 hb3 hb4 hjam hnn.1 hnn.2.1 hnn.2.2 S_a_cache A_a_cache
          · by_cases hb4 : (p1 &&& (8 : Int32)) = (0 : Int32)
            · exact rm0_246 l s _ hw tables_1 p0 p1 p2 jam a_cache s.heap s.heap.size (Nat.le_refl _) hk hb1 hb2 hb3 hb4 hjam hnn.1 hnn.2.1 hnn.2.2 S_a_cache A_a_cache
            · exact rm0_252 l s _ hw tables_1 p0 p1 p2 jam a_cache s.heap s.heap.size (Nat.le_refl _) hk hb1 hb2 hb3 hb4 hjam hnn.1 hnn.2.1 hnn.2.2 S_a_cache A_a_cache E_a_cache
        · by_cases hb3 : (p1 &&& (4 : Int32)) = (0 : Int32)
          · by_cases hb4 : (p1 &&& (8 : Int32)) = (0 : Int32)
            · exact rm0_265 l s _ hw tables_1 p0 p1 p2 jam a_cache s.heap s.heap.size (Nat.le_refl _) hk hb1 hb2 hb3 hb4 hjam hnn.1 hnn.2.1 hnn.2.2 S_a_cache A_a_cache
            · exact rm0_271 l s _ hw tables_1 p0 p1 p2 jam a_cache s.heap s.heap.size (Nat.le_refl _) hk hb1 hb2 hb3 hb4 hjam hnn.1 hnn.2.1 hnn.2.2 S_a_cache A_a_cache E_a_cache
          · by_cases hb4 : (p1 &&& (8 : Int32)) = (0 : Int32)
            · exact rm0_277 l s _ hw tables_1 p0 p1 p2 jam a_cache s.heap s.heap.size (Nat.le_refl _) hk hb1 hb2 hb3 hb4 hjam hnn.1 hnn.2.1 hnn.2.2 S_a_cache A_a_cache E_a_cache
            · exact rm0_284 l s _ hw tables_1 p0 p1 p2 jam a_cache s.heap s.heap.size (Nat.le_refl _) hk hb1 hb2 hb3 hb4 hjam hnn.1 hnn.2.1 hnn.2.2 S_a_cache A_a_cache E_a_cache
      · by_cases hb2 : (p1 &&& (2 : Int32)) = (0 : Int32)
        · by_cases hb3 : (p1 &&& (4 : Int32)) = (0 : Int32)
          · by_cases hb4 : (p1 &&& (8 : Int32)) = (0 : Int32)
            · exact rm0_296 l s _ hw tables_1 p0 p1 p2 jam a_cache s.heap s.heap.size (Nat.le_refl _) hk hb1 hb2 hb3 hb4 hjam hnn.1 hnn.2.1 hnn.2.2 S_a_cache A_a_cache
            · exact rm0_302 l s _ hw tables_1 p0 p1 p2 jam a_cache s.heap s.heap.size (Nat.le_refl _) hk hb1 hb2 hb3 hb4 hjam hnn.1 hnn.2.1 hnn.2.2 S_a_cache A_a_cache E_a_cache
          · by_cases hb4 : (p1 &&& (8 : Int32)) = (0 : Int32)
            · exact rm0_308 l s _ hw tables_1 p0 p1 p2 jam a_cache s.heap s.heap.size (Nat.le_refl _) hk hb1 hb2 hb3 hb4 hjam hnn.1 hnn.2.1 hnn.2.2 S_a_cache A_a_cache E_a_cache
            · exact rm0_315 l s _ hw tables_1 p0 p1 p2 jam a_cache s.heap s.heap.size (Nat.le_refl _) hk hb1 hb2 hb3 hb4 hjam hnn.1 hnn.2.1 hnn.2.2 S_a_cache A_a_cache E_a_cache
        · by_cases hb3 : (p1 &&& (4 : Int32)) = (0 : Int32)
          · by_cases hb4 : (p1 &&& (8 : Int32)) = (0 : Int32)
            · exact rm0_321 l s _ hw tables_1 p0 p1 p2 jam a_cache s.heap s.heap.size (Nat.le_refl _) hk hb1 hb2 hb3 hb4 hjam hnn.1 hnn.2.1 hnn.2.2 S_a_cache A_a_cache E_a_cache
            · exact rm0_328 l s _ hw tables_1 p0 p1 p2 jam a_cache s.heap s.heap.size (Nat.le_refl _) hk hb1 hb2 hb3 hb4 hjam hnn.1 hnn.2.1 hnn.2.2 S_a_cache A_a_cache E_a_cache
          · by_cases hb4 : (p1 &&& (8 : Int32)) = (0 : Int32)
            · exact rm0_335 l s _ hw tables_1 p0 p1 p2 jam a_cache s.heap s.heap.size (Nat.le_refl _) hk hb1 hb2 hb3 hb4 hjam hnn.1 hnn.2.1 hnn.2.2 S_a_cache A_a_cache E_a_cache
            · exact rm0_343 l s _ hw tables_1 p0 p1 p2 jam a_cache s.heap s.heap.size (Nat.le_refl _) hk hb1 hb2 hb3 hb4 hjam hnn.1 hnn.2.1 hnn.2.2 S_a_cache A_a_cache E_a_cache
  obtain ⟨n, o, h1, h2, h3, _, L, rfl, ⟨rfl, N⟩, hq⟩ := M p e ha hc hk s m _ below hf ((Spec.applies_iff_loose hf).mp happ).1 ⟨rfl, State.Warmed39.refl s, rfl⟩ trivial
  refine ⟨n, _, h1, h2, h3, hpost _ _ _ _ _ _ ⟨Cond.after_iff.mpr rfl, Cond.after_iff.mpr (eq_i res_at (Term.int_eval (1)) rfl), trivial⟩ ⟨hq.1, hq.2.1, (hq.2.2.sift fun y hy => Or.inr (N y hy)).mono (by decide) (by decide)⟩⟩
theorem main_1_1 : Claimed_1_1 := comes_1 fun _ _ _ _ _ _ h hF => ⟨h.1, hF⟩
theorem main_1_2 : Claimed_1_2 := comes_1 fun _ _ _ _ _ _ h hF => ⟨h.2.1, hF⟩
end Jvm.Pilot.@@N@@
namespace Jvm.Pilot.@@N@@
open Jvm Jvm.ClassFile Sem Op Lib Jvm.Free Jvm.Stand Jvm.Pilot.@@N@@.Jvm.D
/-! MADE BY PROGRAM (witnessworld.py) out of the Statement's table words and the real class files: 16 classes; the members and pool entries that the words name. The judged class is class 1, her method 1. -/
namespace start1
open Jvm.ClassFile
def u (s : String) : CpInfo := .utf8 (stringToUtf16 s)
/-- a pool by its gaps: so many unusable entries, then the entry; so many at the end -/
def gap : Nat → List CpInfo → List CpInfo
  | 0, r => r
  | n + 1, r => .unusable :: gap n r
def poolList (es : List (Nat × CpInfo)) (last : Nat) : List CpInfo := es.foldr (fun e r => gap e.1 (e.2 :: r)) (gap last [])
def pool (es : List (Nat × CpInfo)) (last : Nat) : Array CpInfo := ⟨poolList es last⟩
def fileOf (pool : Array CpInfo) (this : Nat) (attrs : Array Attribute := #[]) (ms : Array MethodInfo := #[]) (fl : Nat := 33) (sup : Nat := 0) (ifs : Array Nat := #[]) (fds : Array FieldInfo := #[]) : ClassFile where
  minorVersion := 0
  majorVersion := 65
  constantPool := pool
  accessFlags := fl
  thisClass := this
  superClass := sup
  interfaces := ifs
  fields := fds
  methods := ms
  attributes := attrs
def plain (name : String) (sup : Option ClassId) : Class where
  name := name
  kind := .ordinary
  loader := none
  accessFlags := 33
  super := sup
  interfaces := #[]
  cf := none
  fields := #[]
  methods := #[]
  instanceTypes := #[]
  staticTypes := #[]
  resolved := #[]
  callSites := []
  init := .initialized
  statics := none
  mirror := none

def pool0 : Array CpInfo := pool [(5, u "<init>"), (0, u "()V"), (1, .class_ 10), (1, u "java/lang/Object")] 113

def k0c0 : Code := { maxStack := 0, maxLocals := 1, code := object_method_1_code, exceptionTable := #[], attributes := #[] }
def k0m0 : Method := { name := "<init>", desc := "()V", sig := { parameters := [], returnType := none }, accessFlags := 1, code := some k0c0 }
/-- java/lang/Object -/
def k0 : Class := { plain "java/lang/Object" none with
  accessFlags := 33
  interfaces := #[]
  cf := some (fileOf pool0 8 #[] #[{ accessFlags := 1, nameIndex := 5, descriptorIndex := 6, attributes := #[] }] 33 0 #[] #[])
  fields := #[]
  methods := #[k0m0]
  instanceTypes := #[]
  staticTypes := #[]
  resolved := Array.replicate 124 none
  statics := none }

def pool1 : Array CpInfo := pool [(2, .class_ 4), (1, u "java/lang/Object"), (0, u "<init>"), (0, u "()V"), (2, .long 9223372036854775807), (1, .class_ 12), (0, u "hexwright/engine/SealedBids"), (0, .methodref 11 14), (0, .nameAndType 5 15), (0, u "(I)V"), (0, .methodref 11 17), (0, .nameAndType 18 19), (0, u "bid"), (0, u "(IJJ)V"), (0, .methodref 11 21), (0, .nameAndType 22 23), (0, u "hasBid"), (0, u "(I)Z"), (0, .class_ 25), (0, u "hexwright/engine/SealedBidsHasBidPinLaw"), (2, u "law"), (0, u "(IIJ)Z")] 3

def k1m0 : Method := { name := "<init>", desc := "()V", sig := { parameters := [], returnType := none }, accessFlags := 1, code := none }
def k1c1 : Code := { maxStack := 6, maxLocals := 15, code := code, exceptionTable := #[], attributes := #[] }
def k1m1 : Method := { name := "law", desc := "(IIJ)Z", sig := { parameters := [.int, .int, .long], returnType := some .boolean }, accessFlags := 9, code := some k1c1 }
/-- hexwright/engine/SealedBidsHasBidPinLaw -/
def k1 : Class := { plain "hexwright/engine/SealedBidsHasBidPinLaw" (some 0) with
  accessFlags := 49
  interfaces := #[]
  cf := some (fileOf pool1 24 #[] #[{ accessFlags := 1, nameIndex := 5, descriptorIndex := 6, attributes := #[] }, { accessFlags := 9, nameIndex := 28, descriptorIndex := 29, attributes := #[] }] 49 2 #[] #[])
  fields := #[]
  methods := #[k1m0, k1m1]
  instanceTypes := #[]
  staticTypes := #[]
  resolved := Array.replicate 33 none
  statics := none }

def pool2 : Array CpInfo := pool [(1, .methodref 2 3), (0, .class_ 4), (0, .nameAndType 5 6), (0, u "java/lang/Object"), (0, u "<init>"), (0, u "()V"), (0, .class_ 8), (0, u "java/lang/Long"), (0, .fieldref 10 11), (0, .class_ 12), (0, .nameAndType 13 14), (0, u "hexwright/engine/SealedBids"), (0, u "bids"), (0, u "[Ljava/lang/Long;"), (12, .methodref 7 28), (0, .nameAndType 29 30), (0, u "valueOf"), (0, u "(J)Ljava/lang/Long;"), (2, u "hasBid"), (0, u "(I)Z"), (33, u "(I)V"), (4, .class_ 74), (0, u "hexwright/engine/SealedBids$Shown"), (8, u "WAITING"), (0, u "Ljava/lang/String;"), (1, u "SEALED"), (2, u "bid"), (0, u "(IJJ)V")] 32

def k2c0 : Code := { maxStack := 2, maxLocals := 2, code := prog_14_method_1_code, exceptionTable := #[], attributes := #[] }
def k2m0 : Method := { name := "<init>", desc := "(I)V", sig := { parameters := [.int], returnType := none }, accessFlags := 1, code := some k2c0 }
def k2c1 : Code := { maxStack := 7, maxLocals := 6, code := prog_14_method_2_code, exceptionTable := #[], attributes := #[] }
def k2m1 : Method := { name := "bid", desc := "(IJJ)V", sig := { parameters := [.int, .long, .long], returnType := none }, accessFlags := 1, code := some k2c1 }
def k2c2 : Code := { maxStack := 3, maxLocals := 2, code := prog_14_method_4_code, exceptionTable := #[], attributes := #[] }
def k2m2 : Method := { name := "hasBid", desc := "(I)Z", sig := { parameters := [.int], returnType := some .boolean }, accessFlags := 1, code := some k2c2 }
/-- hexwright/engine/SealedBids -/
def k2 : Class := { plain "hexwright/engine/SealedBids" (some 0) with
  accessFlags := 49
  interfaces := #[]
  cf := some (fileOf pool2 10 #[.nestMembers #[73]] #[{ accessFlags := 1, nameIndex := 5, descriptorIndex := 68, attributes := #[] }, { accessFlags := 1, nameIndex := 89, descriptorIndex := 90, attributes := #[] }, { accessFlags := 1, nameIndex := 33, descriptorIndex := 34, attributes := #[] }] 49 2 #[] #[{ accessFlags := 25, nameIndex := 83, descriptorIndex := 84, attributes := #[] }, { accessFlags := 25, nameIndex := 86, descriptorIndex := 84, attributes := #[] }, { accessFlags := 18, nameIndex := 13, descriptorIndex := 14, attributes := #[] }])
  fields := #[{ name := "WAITING", type := (.object "java/lang/String"), accessFlags := 25, slot := 0, constantValue := 0 }, { name := "SEALED", type := (.object "java/lang/String"), accessFlags := 25, slot := 1, constantValue := 0 }, { name := "bids", type := (.array (.object "java/lang/Long")), accessFlags := 18, slot := 0, constantValue := 0 }]
  methods := #[k2m0, k2m1, k2m2]
  instanceTypes := #[(.array (.object "java/lang/Long"))]
  staticTypes := #[(.object "java/lang/String"), (.object "java/lang/String")]
  resolved := Array.replicate 123 none
  statics := none }

def pool3 : Array CpInfo := pool [(1, .class_ 2), (0, u "java/io/Serializable"), (0, .class_ 4), (0, u "java/lang/Object")] 2

/-- java/io/Serializable -/
def k3 : Class := { plain "java/io/Serializable" (some 0) with
  accessFlags := 1537
  interfaces := #[]
  cf := some (fileOf pool3 1 #[] #[] 1537 3 #[] #[])
  fields := #[]
  methods := #[]
  instanceTypes := #[]
  staticTypes := #[]
  resolved := Array.replicate 7 none
  statics := none }

def pool4 : Array CpInfo := pool [(1, .methodref 2 3), (0, .class_ 4), (0, .nameAndType 5 6), (0, u "java/lang/Object"), (0, u "<init>"), (0, u "()V"), (1, .class_ 10), (1, u "java/lang/Number"), (2, .class_ 14), (0, u "java/io/Serializable"), (0, u "serialVersionUID"), (0, u "J")] 20

def k4c0 : Code := { maxStack := 1, maxLocals := 1, code := jdk_18_method_1_code, exceptionTable := #[], attributes := #[] }
def k4m0 : Method := { name := "<init>", desc := "()V", sig := { parameters := [], returnType := none }, accessFlags := 1, code := some k4c0 }
/-- java/lang/Number -/
def k4 : Class := { plain "java/lang/Number" (some 0) with
  accessFlags := 1057
  interfaces := #[3]
  cf := some (fileOf pool4 8 #[] #[{ accessFlags := 1, nameIndex := 5, descriptorIndex := 6, attributes := #[] }] 1057 2 #[13] #[{ accessFlags := 26, nameIndex := 15, descriptorIndex := 16, attributes := #[] }])
  fields := #[{ name := "serialVersionUID", type := .long, accessFlags := 26, slot := 0, constantValue := 0 }]
  methods := #[k4m0]
  instanceTypes := #[]
  staticTypes := #[.long]
  resolved := Array.replicate 37 none
  statics := none }

def pool5 : Array CpInfo := pool [(1, .class_ 2), (0, u "java/lang/Comparable"), (0, .class_ 4), (0, u "java/lang/Object")] 7

/-- java/lang/Comparable -/
def k5 : Class := { plain "java/lang/Comparable" (some 0) with
  accessFlags := 1537
  interfaces := #[]
  cf := some (fileOf pool5 1 #[] #[] 1537 3 #[] #[])
  fields := #[]
  methods := #[]
  instanceTypes := #[]
  staticTypes := #[]
  resolved := Array.replicate 12 none
  statics := none }

def pool6 : Array CpInfo := pool [(1, .class_ 2), (0, u "java/lang/constant/Constable"), (0, .class_ 4), (0, u "java/lang/Object")] 6

/-- java/lang/constant/Constable -/
def k6 : Class := { plain "java/lang/constant/Constable" (some 0) with
  accessFlags := 1537
  interfaces := #[]
  cf := some (fileOf pool6 1 #[] #[] 1537 3 #[] #[])
  fields := #[]
  methods := #[]
  instanceTypes := #[]
  staticTypes := #[]
  resolved := Array.replicate 11 none
  statics := none }

def pool7 : Array CpInfo := pool [(1, .class_ 2), (0, u "java/lang/constant/ConstantDesc"), (0, .class_ 4), (0, u "java/lang/Object")] 32

/-- java/lang/constant/ConstantDesc -/
def k7 : Class := { plain "java/lang/constant/ConstantDesc" (some 0) with
  accessFlags := 1537
  interfaces := #[]
  cf := some (fileOf pool7 1 #[] #[] 1537 3 #[] #[])
  fields := #[]
  methods := #[]
  instanceTypes := #[]
  staticTypes := #[]
  resolved := Array.replicate 37 none
  statics := none }

def pool8 : Array CpInfo := pool [(1, .class_ 2), (0, u "java/lang/Long"), (55, .nameAndType 59 60), (0, u "<init>"), (0, u "()V"), (24, u "valueOf"), (143, u "(J)Ljava/lang/Long;"), (0, .long 18446744073709551488), (1, .long 127), (1, .fieldref 235 236), (0, .class_ 237), (0, .nameAndType 238 239), (0, u "java/lang/Long$LongCache"), (0, u "cache"), (0, u "[Ljava/lang/Long;"), (0, .methodref 1 241), (0, .nameAndType 59 242), (0, u "(J)V"), (27, .methodref 271 58), (0, .class_ 272), (0, u "java/lang/Number"), (0, .fieldref 1 274), (0, .nameAndType 275 276), (0, u "value"), (0, u "J"), (84, u "TYPE"), (0, u "Ljava/lang/Class;"), (0, .class_ 364), (0, u "java/lang/Comparable"), (0, .class_ 366), (0, u "java/lang/constant/Constable"), (0, .class_ 368), (0, u "java/lang/constant/ConstantDesc"), (0, u "MIN_VALUE"), (1, u "MAX_VALUE"), (4, u "SIZE"), (0, u "I"), (1, u "BYTES"), (1, u "serialVersionUID")] 142

def k8c0 : Code := { maxStack := 4, maxLocals := 3, code := jdk_35_method_24_code, exceptionTable := #[], attributes := #[] }
def k8m0 : Method := { name := "valueOf", desc := "(J)Ljava/lang/Long;", sig := { parameters := [.long], returnType := some (.object "java/lang/Long") }, accessFlags := 9, code := some k8c0 }
def k8c1 : Code := { maxStack := 3, maxLocals := 3, code := jdk_35_method_26_code, exceptionTable := #[], attributes := #[] }
def k8m1 : Method := { name := "<init>", desc := "(J)V", sig := { parameters := [.long], returnType := none }, accessFlags := 1, code := some k8c1 }
/-- java/lang/Long -/
def k8 : Class := { plain "java/lang/Long" (some 4) with
  accessFlags := 49
  interfaces := #[5, 6, 7]
  cf := some (fileOf pool8 1 #[.nestMembers #[235]] #[{ accessFlags := 9, nameIndex := 85, descriptorIndex := 229, attributes := #[] }, { accessFlags := 1, nameIndex := 59, descriptorIndex := 242, attributes := #[] }] 49 271 #[363, 365, 367] #[{ accessFlags := 25, nameIndex := 369, descriptorIndex := 276, attributes := #[] }, { accessFlags := 25, nameIndex := 371, descriptorIndex := 276, attributes := #[] }, { accessFlags := 25, nameIndex := 361, descriptorIndex := 362, attributes := #[] }, { accessFlags := 18, nameIndex := 275, descriptorIndex := 276, attributes := #[] }, { accessFlags := 25, nameIndex := 376, descriptorIndex := 377, attributes := #[] }, { accessFlags := 25, nameIndex := 379, descriptorIndex := 377, attributes := #[] }, { accessFlags := 26, nameIndex := 381, descriptorIndex := 276, attributes := #[] }])
  fields := #[{ name := "MIN_VALUE", type := .long, accessFlags := 25, slot := 0, constantValue := 0 }, { name := "MAX_VALUE", type := .long, accessFlags := 25, slot := 1, constantValue := 0 }, { name := "TYPE", type := (.object "java/lang/Class"), accessFlags := 25, slot := 2, constantValue := 0 }, { name := "value", type := .long, accessFlags := 18, slot := 0, constantValue := 0 }, { name := "SIZE", type := .int, accessFlags := 25, slot := 3, constantValue := 0 }, { name := "BYTES", type := .int, accessFlags := 25, slot := 4, constantValue := 0 }, { name := "serialVersionUID", type := .long, accessFlags := 26, slot := 5, constantValue := 0 }]
  methods := #[k8m0, k8m1]
  instanceTypes := #[.long]
  staticTypes := #[.long, .long, (.object "java/lang/Class"), .int, .int, .long]
  resolved := Array.replicate 524 none
  statics := none }

def pool9 : Array CpInfo := pool [(2, .class_ 4), (1, u "java/lang/Object"), (0, u "<init>"), (0, u "()V"), (0, .class_ 8), (0, u "java/lang/Long"), (7, .class_ 18), (1, u "java/lang/Long$LongCache"), (0, u "$assertionsDisabled"), (0, u "Z"), (8, u "archivedCache"), (0, u "[Ljava/lang/Long;"), (7, u "cache")] 24

def k9m0 : Method := { name := "<init>", desc := "()V", sig := { parameters := [], returnType := none }, accessFlags := 2, code := none }
/-- java/lang/Long$LongCache -/
def k9 : Class := { plain "java/lang/Long$LongCache" (some 0) with
  accessFlags := 48
  interfaces := #[]
  cf := some (fileOf pool9 16 #[.nestHost 7] #[{ accessFlags := 2, nameIndex := 5, descriptorIndex := 6, attributes := #[] }] 48 2 #[] #[{ accessFlags := 24, nameIndex := 38, descriptorIndex := 30, attributes := #[] }, { accessFlags := 8, nameIndex := 29, descriptorIndex := 30, attributes := #[] }, { accessFlags := 4120, nameIndex := 19, descriptorIndex := 20, attributes := #[] }])
  fields := #[{ name := "cache", type := (.array (.object "java/lang/Long")), accessFlags := 24, slot := 0, constantValue := 0 }, { name := "archivedCache", type := (.array (.object "java/lang/Long")), accessFlags := 8, slot := 1, constantValue := 0 }, { name := "$assertionsDisabled", type := .boolean, accessFlags := 4120, slot := 2, constantValue := 0 }]
  methods := #[k9m0]
  instanceTypes := #[]
  staticTypes := #[(.array (.object "java/lang/Long")), (.array (.object "java/lang/Long")), .boolean]
  resolved := Array.replicate 63 none
  statics := some 0 }

def pool10 : Array CpInfo := pool [(1, u "java/lang/Cloneable"), (0, .class_ 1), (0, u "java/lang/Object"), (0, .class_ 3)] 3

/-- java/lang/Cloneable -/
def k10 : Class := { plain "java/lang/Cloneable" (some 0) with
  accessFlags := 1537
  interfaces := #[]
  cf := some (fileOf pool10 2 #[] #[] 1537 4 #[] #[])
  fields := #[]
  methods := #[]
  instanceTypes := #[]
  staticTypes := #[]
  resolved := Array.replicate 8 none
  statics := none }

/-- the primitive byte -/
def k11 : Class := { plain "byte" none with kind := .primitive 'B', accessFlags := 0x411 }
/-- [B -/
def k12 : Class := { plain "[B" (some 0) with kind := .array 11 .byte, interfaces := #[10, 3], accessFlags := 1041 }

/-- the primitive int -/
def k13 : Class := { plain "int" none with kind := .primitive 'I', accessFlags := 0x411 }
/-- [I -/
def k14 : Class := { plain "[I" (some 0) with kind := .array 13 .int, interfaces := #[10, 3], accessFlags := 1041 }

/-- [Ljava/lang/Long; -/
def k15 : Class := { plain "[Ljava/lang/Long;" (some 0) with kind := .array 8 (.object "java/lang/Long"), interfaces := #[10, 3], accessFlags := 1041 }

def heap : Heap := #[{ cls := 9, slots := #[.ref 1, .null, .int 0], vm := .statics 9 },
  { cls := 15, slots := #[.ref 2, .ref 3, .ref 4, .ref 5, .ref 6, .ref 7, .ref 8, .ref 9, .ref 10, .ref 11, .ref 12, .ref 13, .ref 14, .ref 15, .ref 16, .ref 17, .ref 18, .ref 19, .ref 20, .ref 21, .ref 22, .ref 23, .ref 24, .ref 25, .ref 26, .ref 27, .ref 28, .ref 29, .ref 30, .ref 31, .ref 32, .ref 33, .ref 34, .ref 35, .ref 36, .ref 37, .ref 38, .ref 39, .ref 40, .ref 41, .ref 42, .ref 43, .ref 44, .ref 45, .ref 46, .ref 47, .ref 48, .ref 49, .ref 50, .ref 51, .ref 52, .ref 53, .ref 54, .ref 55, .ref 56, .ref 57, .ref 58, .ref 59, .ref 60, .ref 61, .ref 62, .ref 63, .ref 64, .ref 65, .ref 66, .ref 67, .ref 68, .ref 69, .ref 70, .ref 71, .ref 72, .ref 73, .ref 74, .ref 75, .ref 76, .ref 77, .ref 78, .ref 79, .ref 80, .ref 81, .ref 82, .ref 83, .ref 84, .ref 85, .ref 86, .ref 87, .ref 88, .ref 89, .ref 90, .ref 91, .ref 92, .ref 93, .ref 94, .ref 95, .ref 96, .ref 97, .ref 98, .ref 99, .ref 100, .ref 101, .ref 102, .ref 103, .ref 104, .ref 105, .ref 106, .ref 107, .ref 108, .ref 109, .ref 110, .ref 111, .ref 112, .ref 113, .ref 114, .ref 115, .ref 116, .ref 117, .ref 118, .ref 119, .ref 120, .ref 121, .ref 122, .ref 123, .ref 124, .ref 125, .ref 126, .ref 127, .ref 128, .ref 129, .ref 130, .ref 131, .ref 132, .ref 133, .ref 134, .ref 135, .ref 136, .ref 137, .ref 138, .ref 139, .ref 140, .ref 141, .ref 142, .ref 143, .ref 144, .ref 145, .ref 146, .ref 147, .ref 148, .ref 149, .ref 150, .ref 151, .ref 152, .ref 153, .ref 154, .ref 155, .ref 156, .ref 157, .ref 158, .ref 159, .ref 160, .ref 161, .ref 162, .ref 163, .ref 164, .ref 165, .ref 166, .ref 167, .ref 168, .ref 169, .ref 170, .ref 171, .ref 172, .ref 173, .ref 174, .ref 175, .ref 176, .ref 177, .ref 178, .ref 179, .ref 180, .ref 181, .ref 182, .ref 183, .ref 184, .ref 185, .ref 186, .ref 187, .ref 188, .ref 189, .ref 190, .ref 191, .ref 192, .ref 193, .ref 194, .ref 195, .ref 196, .ref 197, .ref 198, .ref 199, .ref 200, .ref 201, .ref 202, .ref 203, .ref 204, .ref 205, .ref 206, .ref 207, .ref 208, .ref 209, .ref 210, .ref 211, .ref 212, .ref 213, .ref 214, .ref 215, .ref 216, .ref 217, .ref 218, .ref 219, .ref 220, .ref 221, .ref 222, .ref 223, .ref 224, .ref 225, .ref 226, .ref 227, .ref 228, .ref 229, .ref 230, .ref 231, .ref 232, .ref 233, .ref 234, .ref 235, .ref 236, .ref 237, .ref 238, .ref 239, .ref 240, .ref 241, .ref 242, .ref 243, .ref 244, .ref 245, .ref 246, .ref 247, .ref 248, .ref 249, .ref 250, .ref 251, .ref 252, .ref 253, .ref 254, .ref 255, .ref 256, .ref 257], vm := .none },
  { cls := 8, slots := #[.long (-128)], vm := .none },
  { cls := 8, slots := #[.long (-127)], vm := .none },
  { cls := 8, slots := #[.long (-126)], vm := .none },
  { cls := 8, slots := #[.long (-125)], vm := .none },
  { cls := 8, slots := #[.long (-124)], vm := .none },
  { cls := 8, slots := #[.long (-123)], vm := .none },
  { cls := 8, slots := #[.long (-122)], vm := .none },
  { cls := 8, slots := #[.long (-121)], vm := .none },
  { cls := 8, slots := #[.long (-120)], vm := .none },
  { cls := 8, slots := #[.long (-119)], vm := .none },
  { cls := 8, slots := #[.long (-118)], vm := .none },
  { cls := 8, slots := #[.long (-117)], vm := .none },
  { cls := 8, slots := #[.long (-116)], vm := .none },
  { cls := 8, slots := #[.long (-115)], vm := .none },
  { cls := 8, slots := #[.long (-114)], vm := .none },
  { cls := 8, slots := #[.long (-113)], vm := .none },
  { cls := 8, slots := #[.long (-112)], vm := .none },
  { cls := 8, slots := #[.long (-111)], vm := .none },
  { cls := 8, slots := #[.long (-110)], vm := .none },
  { cls := 8, slots := #[.long (-109)], vm := .none },
  { cls := 8, slots := #[.long (-108)], vm := .none },
  { cls := 8, slots := #[.long (-107)], vm := .none },
  { cls := 8, slots := #[.long (-106)], vm := .none },
  { cls := 8, slots := #[.long (-105)], vm := .none },
  { cls := 8, slots := #[.long (-104)], vm := .none },
  { cls := 8, slots := #[.long (-103)], vm := .none },
  { cls := 8, slots := #[.long (-102)], vm := .none },
  { cls := 8, slots := #[.long (-101)], vm := .none },
  { cls := 8, slots := #[.long (-100)], vm := .none },
  { cls := 8, slots := #[.long (-99)], vm := .none },
  { cls := 8, slots := #[.long (-98)], vm := .none },
  { cls := 8, slots := #[.long (-97)], vm := .none },
  { cls := 8, slots := #[.long (-96)], vm := .none },
  { cls := 8, slots := #[.long (-95)], vm := .none },
  { cls := 8, slots := #[.long (-94)], vm := .none },
  { cls := 8, slots := #[.long (-93)], vm := .none },
  { cls := 8, slots := #[.long (-92)], vm := .none },
  { cls := 8, slots := #[.long (-91)], vm := .none },
  { cls := 8, slots := #[.long (-90)], vm := .none },
  { cls := 8, slots := #[.long (-89)], vm := .none },
  { cls := 8, slots := #[.long (-88)], vm := .none },
  { cls := 8, slots := #[.long (-87)], vm := .none },
  { cls := 8, slots := #[.long (-86)], vm := .none },
  { cls := 8, slots := #[.long (-85)], vm := .none },
  { cls := 8, slots := #[.long (-84)], vm := .none },
  { cls := 8, slots := #[.long (-83)], vm := .none },
  { cls := 8, slots := #[.long (-82)], vm := .none },
  { cls := 8, slots := #[.long (-81)], vm := .none },
  { cls := 8, slots := #[.long (-80)], vm := .none },
  { cls := 8, slots := #[.long (-79)], vm := .none },
  { cls := 8, slots := #[.long (-78)], vm := .none },
  { cls := 8, slots := #[.long (-77)], vm := .none },
  { cls := 8, slots := #[.long (-76)], vm := .none },
  { cls := 8, slots := #[.long (-75)], vm := .none },
  { cls := 8, slots := #[.long (-74)], vm := .none },
  { cls := 8, slots := #[.long (-73)], vm := .none },
  { cls := 8, slots := #[.long (-72)], vm := .none },
  { cls := 8, slots := #[.long (-71)], vm := .none },
  { cls := 8, slots := #[.long (-70)], vm := .none },
  { cls := 8, slots := #[.long (-69)], vm := .none },
  { cls := 8, slots := #[.long (-68)], vm := .none },
  { cls := 8, slots := #[.long (-67)], vm := .none },
  { cls := 8, slots := #[.long (-66)], vm := .none },
  { cls := 8, slots := #[.long (-65)], vm := .none },
  { cls := 8, slots := #[.long (-64)], vm := .none },
  { cls := 8, slots := #[.long (-63)], vm := .none },
  { cls := 8, slots := #[.long (-62)], vm := .none },
  { cls := 8, slots := #[.long (-61)], vm := .none },
  { cls := 8, slots := #[.long (-60)], vm := .none },
  { cls := 8, slots := #[.long (-59)], vm := .none },
  { cls := 8, slots := #[.long (-58)], vm := .none },
  { cls := 8, slots := #[.long (-57)], vm := .none },
  { cls := 8, slots := #[.long (-56)], vm := .none },
  { cls := 8, slots := #[.long (-55)], vm := .none },
  { cls := 8, slots := #[.long (-54)], vm := .none },
  { cls := 8, slots := #[.long (-53)], vm := .none },
  { cls := 8, slots := #[.long (-52)], vm := .none },
  { cls := 8, slots := #[.long (-51)], vm := .none },
  { cls := 8, slots := #[.long (-50)], vm := .none },
  { cls := 8, slots := #[.long (-49)], vm := .none },
  { cls := 8, slots := #[.long (-48)], vm := .none },
  { cls := 8, slots := #[.long (-47)], vm := .none },
  { cls := 8, slots := #[.long (-46)], vm := .none },
  { cls := 8, slots := #[.long (-45)], vm := .none },
  { cls := 8, slots := #[.long (-44)], vm := .none },
  { cls := 8, slots := #[.long (-43)], vm := .none },
  { cls := 8, slots := #[.long (-42)], vm := .none },
  { cls := 8, slots := #[.long (-41)], vm := .none },
  { cls := 8, slots := #[.long (-40)], vm := .none },
  { cls := 8, slots := #[.long (-39)], vm := .none },
  { cls := 8, slots := #[.long (-38)], vm := .none },
  { cls := 8, slots := #[.long (-37)], vm := .none },
  { cls := 8, slots := #[.long (-36)], vm := .none },
  { cls := 8, slots := #[.long (-35)], vm := .none },
  { cls := 8, slots := #[.long (-34)], vm := .none },
  { cls := 8, slots := #[.long (-33)], vm := .none },
  { cls := 8, slots := #[.long (-32)], vm := .none },
  { cls := 8, slots := #[.long (-31)], vm := .none },
  { cls := 8, slots := #[.long (-30)], vm := .none },
  { cls := 8, slots := #[.long (-29)], vm := .none },
  { cls := 8, slots := #[.long (-28)], vm := .none },
  { cls := 8, slots := #[.long (-27)], vm := .none },
  { cls := 8, slots := #[.long (-26)], vm := .none },
  { cls := 8, slots := #[.long (-25)], vm := .none },
  { cls := 8, slots := #[.long (-24)], vm := .none },
  { cls := 8, slots := #[.long (-23)], vm := .none },
  { cls := 8, slots := #[.long (-22)], vm := .none },
  { cls := 8, slots := #[.long (-21)], vm := .none },
  { cls := 8, slots := #[.long (-20)], vm := .none },
  { cls := 8, slots := #[.long (-19)], vm := .none },
  { cls := 8, slots := #[.long (-18)], vm := .none },
  { cls := 8, slots := #[.long (-17)], vm := .none },
  { cls := 8, slots := #[.long (-16)], vm := .none },
  { cls := 8, slots := #[.long (-15)], vm := .none },
  { cls := 8, slots := #[.long (-14)], vm := .none },
  { cls := 8, slots := #[.long (-13)], vm := .none },
  { cls := 8, slots := #[.long (-12)], vm := .none },
  { cls := 8, slots := #[.long (-11)], vm := .none },
  { cls := 8, slots := #[.long (-10)], vm := .none },
  { cls := 8, slots := #[.long (-9)], vm := .none },
  { cls := 8, slots := #[.long (-8)], vm := .none },
  { cls := 8, slots := #[.long (-7)], vm := .none },
  { cls := 8, slots := #[.long (-6)], vm := .none },
  { cls := 8, slots := #[.long (-5)], vm := .none },
  { cls := 8, slots := #[.long (-4)], vm := .none },
  { cls := 8, slots := #[.long (-3)], vm := .none },
  { cls := 8, slots := #[.long (-2)], vm := .none },
  { cls := 8, slots := #[.long (-1)], vm := .none },
  { cls := 8, slots := #[.long 0], vm := .none },
  { cls := 8, slots := #[.long 1], vm := .none },
  { cls := 8, slots := #[.long 2], vm := .none },
  { cls := 8, slots := #[.long 3], vm := .none },
  { cls := 8, slots := #[.long 4], vm := .none },
  { cls := 8, slots := #[.long 5], vm := .none },
  { cls := 8, slots := #[.long 6], vm := .none },
  { cls := 8, slots := #[.long 7], vm := .none },
  { cls := 8, slots := #[.long 8], vm := .none },
  { cls := 8, slots := #[.long 9], vm := .none },
  { cls := 8, slots := #[.long 10], vm := .none },
  { cls := 8, slots := #[.long 11], vm := .none },
  { cls := 8, slots := #[.long 12], vm := .none },
  { cls := 8, slots := #[.long 13], vm := .none },
  { cls := 8, slots := #[.long 14], vm := .none },
  { cls := 8, slots := #[.long 15], vm := .none },
  { cls := 8, slots := #[.long 16], vm := .none },
  { cls := 8, slots := #[.long 17], vm := .none },
  { cls := 8, slots := #[.long 18], vm := .none },
  { cls := 8, slots := #[.long 19], vm := .none },
  { cls := 8, slots := #[.long 20], vm := .none },
  { cls := 8, slots := #[.long 21], vm := .none },
  { cls := 8, slots := #[.long 22], vm := .none },
  { cls := 8, slots := #[.long 23], vm := .none },
  { cls := 8, slots := #[.long 24], vm := .none },
  { cls := 8, slots := #[.long 25], vm := .none },
  { cls := 8, slots := #[.long 26], vm := .none },
  { cls := 8, slots := #[.long 27], vm := .none },
  { cls := 8, slots := #[.long 28], vm := .none },
  { cls := 8, slots := #[.long 29], vm := .none },
  { cls := 8, slots := #[.long 30], vm := .none },
  { cls := 8, slots := #[.long 31], vm := .none },
  { cls := 8, slots := #[.long 32], vm := .none },
  { cls := 8, slots := #[.long 33], vm := .none },
  { cls := 8, slots := #[.long 34], vm := .none },
  { cls := 8, slots := #[.long 35], vm := .none },
  { cls := 8, slots := #[.long 36], vm := .none },
  { cls := 8, slots := #[.long 37], vm := .none },
  { cls := 8, slots := #[.long 38], vm := .none },
  { cls := 8, slots := #[.long 39], vm := .none },
  { cls := 8, slots := #[.long 40], vm := .none },
  { cls := 8, slots := #[.long 41], vm := .none },
  { cls := 8, slots := #[.long 42], vm := .none },
  { cls := 8, slots := #[.long 43], vm := .none },
  { cls := 8, slots := #[.long 44], vm := .none },
  { cls := 8, slots := #[.long 45], vm := .none },
  { cls := 8, slots := #[.long 46], vm := .none },
  { cls := 8, slots := #[.long 47], vm := .none },
  { cls := 8, slots := #[.long 48], vm := .none },
  { cls := 8, slots := #[.long 49], vm := .none },
  { cls := 8, slots := #[.long 50], vm := .none },
  { cls := 8, slots := #[.long 51], vm := .none },
  { cls := 8, slots := #[.long 52], vm := .none },
  { cls := 8, slots := #[.long 53], vm := .none },
  { cls := 8, slots := #[.long 54], vm := .none },
  { cls := 8, slots := #[.long 55], vm := .none },
  { cls := 8, slots := #[.long 56], vm := .none },
  { cls := 8, slots := #[.long 57], vm := .none },
  { cls := 8, slots := #[.long 58], vm := .none },
  { cls := 8, slots := #[.long 59], vm := .none },
  { cls := 8, slots := #[.long 60], vm := .none },
  { cls := 8, slots := #[.long 61], vm := .none },
  { cls := 8, slots := #[.long 62], vm := .none },
  { cls := 8, slots := #[.long 63], vm := .none },
  { cls := 8, slots := #[.long 64], vm := .none },
  { cls := 8, slots := #[.long 65], vm := .none },
  { cls := 8, slots := #[.long 66], vm := .none },
  { cls := 8, slots := #[.long 67], vm := .none },
  { cls := 8, slots := #[.long 68], vm := .none },
  { cls := 8, slots := #[.long 69], vm := .none },
  { cls := 8, slots := #[.long 70], vm := .none },
  { cls := 8, slots := #[.long 71], vm := .none },
  { cls := 8, slots := #[.long 72], vm := .none },
  { cls := 8, slots := #[.long 73], vm := .none },
  { cls := 8, slots := #[.long 74], vm := .none },
  { cls := 8, slots := #[.long 75], vm := .none },
  { cls := 8, slots := #[.long 76], vm := .none },
  { cls := 8, slots := #[.long 77], vm := .none },
  { cls := 8, slots := #[.long 78], vm := .none },
  { cls := 8, slots := #[.long 79], vm := .none },
  { cls := 8, slots := #[.long 80], vm := .none },
  { cls := 8, slots := #[.long 81], vm := .none },
  { cls := 8, slots := #[.long 82], vm := .none },
  { cls := 8, slots := #[.long 83], vm := .none },
  { cls := 8, slots := #[.long 84], vm := .none },
  { cls := 8, slots := #[.long 85], vm := .none },
  { cls := 8, slots := #[.long 86], vm := .none },
  { cls := 8, slots := #[.long 87], vm := .none },
  { cls := 8, slots := #[.long 88], vm := .none },
  { cls := 8, slots := #[.long 89], vm := .none },
  { cls := 8, slots := #[.long 90], vm := .none },
  { cls := 8, slots := #[.long 91], vm := .none },
  { cls := 8, slots := #[.long 92], vm := .none },
  { cls := 8, slots := #[.long 93], vm := .none },
  { cls := 8, slots := #[.long 94], vm := .none },
  { cls := 8, slots := #[.long 95], vm := .none },
  { cls := 8, slots := #[.long 96], vm := .none },
  { cls := 8, slots := #[.long 97], vm := .none },
  { cls := 8, slots := #[.long 98], vm := .none },
  { cls := 8, slots := #[.long 99], vm := .none },
  { cls := 8, slots := #[.long 100], vm := .none },
  { cls := 8, slots := #[.long 101], vm := .none },
  { cls := 8, slots := #[.long 102], vm := .none },
  { cls := 8, slots := #[.long 103], vm := .none },
  { cls := 8, slots := #[.long 104], vm := .none },
  { cls := 8, slots := #[.long 105], vm := .none },
  { cls := 8, slots := #[.long 106], vm := .none },
  { cls := 8, slots := #[.long 107], vm := .none },
  { cls := 8, slots := #[.long 108], vm := .none },
  { cls := 8, slots := #[.long 109], vm := .none },
  { cls := 8, slots := #[.long 110], vm := .none },
  { cls := 8, slots := #[.long 111], vm := .none },
  { cls := 8, slots := #[.long 112], vm := .none },
  { cls := 8, slots := #[.long 113], vm := .none },
  { cls := 8, slots := #[.long 114], vm := .none },
  { cls := 8, slots := #[.long 115], vm := .none },
  { cls := 8, slots := #[.long 116], vm := .none },
  { cls := 8, slots := #[.long 117], vm := .none },
  { cls := 8, slots := #[.long 118], vm := .none },
  { cls := 8, slots := #[.long 119], vm := .none },
  { cls := 8, slots := #[.long 120], vm := .none },
  { cls := 8, slots := #[.long 121], vm := .none },
  { cls := 8, slots := #[.long 122], vm := .none },
  { cls := 8, slots := #[.long 123], vm := .none },
  { cls := 8, slots := #[.long 124], vm := .none },
  { cls := 8, slots := #[.long 125], vm := .none },
  { cls := 8, slots := #[.long 126], vm := .none },
  { cls := 8, slots := #[.long 127], vm := .none }]
def classes : Array Class := #[k0, k1, k2, k3, k4, k5, k6, k7, k8, k9, k10, k11, k12, k13, k14, k15]
def interned : List (Array UInt16 × Addr) := []
def slotsUsed : Nat := 515
def theMethod : MethodId := ⟨1, 1⟩
def args0 : Array Value := #[.int 5, .int 3, .long 7]
def aboutOver (below : List Frame) : State where
  vm := { classes := classes, interned := interned.toArray }
  heap := heap
  slotsUsed := slotsUsed
  threads := #[{ frames := .invoking theMethod args0 :: below }]
def below0 : List Frame := [.native { method := ⟨0, 0⟩, args := #[] }]
def about1 : State := aboutOver below0
def p0 : Program := .bare "" "" ""
def e0 : Env := launch0.env 0 0 0
theorem w_frames : about1.frames = Frame.invoking theMethod args0 :: below0 := rfl
set_option maxRecDepth 65536 in
theorem w_args : argsFit about1.vm theMethod args0 = true := by decide +kernel
set_option maxRecDepth 65536 in
theorem w_heap : heapFits about1 = true := by decide +kernel
set_option maxRecDepth 65536 in
theorem w_runnable : about1.curStatus? = some .runnable := by decide +kernel
set_option maxRecDepth 65536 in
theorem w_alone : about1.alone = true := by decide +kernel
set_option maxRecDepth 65536 in
theorem w_named : about1.methodNamed? x = some theMethod := by decide +kernel
set_option maxRecDepth 65536 in
theorem w_hears : about1.hears theMethod below0 = true := by decide +kernel
set_option maxRecDepth 65536 in
theorem w_ripe : about1.ripe theMethod args0 below0 = true := by decide +kernel
theorem w_running : about1.status = .running := rfl
set_option maxRecDepth 65536 in
theorem w_room : about1.hasRoom e0.platform room_1 = true :=
  launch0.hasRoom_least _ room_1 (by decide +kernel) (by decide +kernel) (by decide +kernel) (by decide +kernel) (by decide +kernel) (by decide +kernel)
theorem allAtoms_all (ts : List Jvm.Cond) (a : Array Jvm.Value) (st : Jvm.State) : (allAtoms ts).before a st = ts.all (fun c => c.before a st) := by
  induction ts with
  | nil => rfl
  | cons c t ih =>
    show (Jvm.Cond.and c (allAtoms t)).before a st = _
    rw [Jvm.Cond.before_and, ih, List.all_cons]
def words1 : List Jvm.Cond := Jvm.Cond.code x code maxLocals ret :: tables_1
/-- a 'code' word, met by the world's own term for the bytes: nothing is compared byte by byte -/
theorem code_word {y : MethodName} {bytes : ByteArray} {mx : Nat} {rt : Option FieldType} {a : Array Value} {s : State} {m : MethodId} {meth : Method} {c : Code} (h1 : s.methodNamed? y = some m) (h2 : s.vm.method? m = some meth) (h3 : meth.code = some c) (h4 : c.code = bytes)
    (h5 : (c.maxLocals == mx && c.exceptionTable.isEmpty && decide (c.maxStack ≤ mostOperands) && decide (meth.sig.returnType = rt) && !meth.locks && decide (parseMethodDescriptor y.desc = some meth.sig)) = true) : (Jvm.Cond.code y bytes mx rt).before a s = true := by
  simp only [Bool.and_eq_true, beq_iff_eq, Bool.not_eq_true', decide_eq_true_eq] at h5
  obtain ⟨⟨⟨⟨⟨g1, g2⟩, g3⟩, g4⟩, g5⟩, g6⟩ := h5
  simp [Cond.before, Cond.holds, Cond.value, h1, h2, h3, h4, g1, g2, g3, g4, g5, g6]
def isCode : Jvm.Cond → Bool
  | .code _ _ _ _ => true
  | _ => false
theorem all_split {L : List Jvm.Cond} {P : Jvm.Cond → Bool} (h1 : L.all (fun c => isCode c || P c) = true) (h2 : ∀ c ∈ L.filter isCode, P c = true) : L.all P = true := by
  refine List.all_eq_true.mpr fun c hc => ?_
  have h := List.all_eq_true.mp h1 c hc
  rcases Bool.eq_false_or_eq_true (isCode c) with hi | hi
  · exact h2 c (List.mem_filter.mpr ⟨hc, hi⟩)
  · simpa [hi] using h
set_option maxRecDepth 65536 in
theorem w_c0 : (Jvm.Cond.code x code maxLocals ret).before args0 about1 = true := code_word (m := ⟨1, 1⟩) (meth := k1m1) (c := k1c1) (by decide +kernel) rfl rfl rfl (by decide +kernel)
set_option maxRecDepth 65536 in
theorem w_c1 : (Jvm.Cond.code ({ cls := "hexwright/engine/SealedBids", name := "<init>", desc := "(I)V" } : Jvm.MethodName) prog_14_method_1_code (2 : Nat) (Option.none : Option Jvm.ClassFile.FieldType)).before args0 about1 = true := code_word (m := ⟨2, 0⟩) (meth := k2m0) (c := k2c0) (by decide +kernel) rfl rfl rfl (by decide +kernel)
set_option maxRecDepth 65536 in
theorem w_c2 : (Jvm.Cond.code ({ cls := "java/lang/Object", name := "<init>", desc := "()V" } : Jvm.MethodName) object_method_1_code (1 : Nat) (Option.none : Option Jvm.ClassFile.FieldType)).before args0 about1 = true := code_word (m := ⟨0, 0⟩) (meth := k0m0) (c := k0c0) (by decide +kernel) rfl rfl rfl (by decide +kernel)
set_option maxRecDepth 65536 in
theorem w_c3 : (Jvm.Cond.code ({ cls := "hexwright/engine/SealedBids", name := "bid", desc := "(IJJ)V" } : Jvm.MethodName) prog_14_method_2_code (6 : Nat) (Option.none : Option Jvm.ClassFile.FieldType)).before args0 about1 = true := code_word (m := ⟨2, 1⟩) (meth := k2m1) (c := k2c1) (by decide +kernel) rfl rfl rfl (by decide +kernel)
set_option maxRecDepth 65536 in
theorem w_c4 : (Jvm.Cond.code ({ cls := "java/lang/Long", name := "valueOf", desc := "(J)Ljava/lang/Long;" } : Jvm.MethodName) jdk_35_method_24_code (3 : Nat) (Option.some (Jvm.ClassFile.FieldType.object "java/lang/Long"))).before args0 about1 = true := code_word (m := ⟨8, 0⟩) (meth := k8m0) (c := k8c0) (by decide +kernel) rfl rfl rfl (by decide +kernel)
set_option maxRecDepth 65536 in
theorem w_c5 : (Jvm.Cond.code ({ cls := "hexwright/engine/SealedBids", name := "hasBid", desc := "(I)Z" } : Jvm.MethodName) prog_14_method_4_code (2 : Nat) (Option.some Jvm.ClassFile.FieldType.boolean)).before args0 about1 = true := code_word (m := ⟨2, 2⟩) (meth := k2m2) (c := k2c2) (by decide +kernel) rfl rfl rfl (by decide +kernel)
set_option maxRecDepth 65536 in
theorem w_c6 : (Jvm.Cond.code ({ cls := "java/lang/Long", name := "<init>", desc := "(J)V" } : Jvm.MethodName) jdk_35_method_26_code (3 : Nat) (Option.none : Option Jvm.ClassFile.FieldType)).before args0 about1 = true := code_word (m := ⟨8, 1⟩) (meth := k8m1) (c := k8c1) (by decide +kernel) rfl rfl rfl (by decide +kernel)
set_option maxRecDepth 65536 in
theorem w_c7 : (Jvm.Cond.code ({ cls := "java/lang/Number", name := "<init>", desc := "()V" } : Jvm.MethodName) jdk_18_method_1_code (1 : Nat) (Option.none : Option Jvm.ClassFile.FieldType)).before args0 about1 = true := code_word (m := ⟨4, 0⟩) (meth := k4m0) (c := k4c0) (by decide +kernel) rfl rfl rfl (by decide +kernel)
def codes1 : List Jvm.Cond := [Jvm.Cond.code x code maxLocals ret, Jvm.Cond.code ({ cls := "hexwright/engine/SealedBids", name := "<init>", desc := "(I)V" } : Jvm.MethodName) prog_14_method_1_code (2 : Nat) (Option.none : Option Jvm.ClassFile.FieldType), Jvm.Cond.code ({ cls := "java/lang/Object", name := "<init>", desc := "()V" } : Jvm.MethodName) object_method_1_code (1 : Nat) (Option.none : Option Jvm.ClassFile.FieldType), Jvm.Cond.code ({ cls := "hexwright/engine/SealedBids", name := "bid", desc := "(IJJ)V" } : Jvm.MethodName) prog_14_method_2_code (6 : Nat) (Option.none : Option Jvm.ClassFile.FieldType), Jvm.Cond.code ({ cls := "java/lang/Long", name := "valueOf", desc := "(J)Ljava/lang/Long;" } : Jvm.MethodName) jdk_35_method_24_code (3 : Nat) (Option.some (Jvm.ClassFile.FieldType.object "java/lang/Long")), Jvm.Cond.code ({ cls := "hexwright/engine/SealedBids", name := "hasBid", desc := "(I)Z" } : Jvm.MethodName) prog_14_method_4_code (2 : Nat) (Option.some Jvm.ClassFile.FieldType.boolean), Jvm.Cond.code ({ cls := "java/lang/Long", name := "<init>", desc := "(J)V" } : Jvm.MethodName) jdk_35_method_26_code (3 : Nat) (Option.none : Option Jvm.ClassFile.FieldType), Jvm.Cond.code ({ cls := "java/lang/Number", name := "<init>", desc := "()V" } : Jvm.MethodName) jdk_18_method_1_code (1 : Nat) (Option.none : Option Jvm.ClassFile.FieldType)]
set_option maxRecDepth 65536 in
theorem codes_eq : words1.filter isCode = codes1 := rfl
theorem w_codes : ∀ c ∈ words1.filter isCode, c.before args0 about1 = true := by
  rw [codes_eq]
  intro c hc
  simp only [codes1, List.mem_cons, List.not_mem_nil, or_false] at hc
  rcases hc with rfl | rfl | rfl | rfl | rfl | rfl | rfl | rfl
  · exact w_c0
  · exact w_c1
  · exact w_c2
  · exact w_c3
  · exact w_c4
  · exact w_c5
  · exact w_c6
  · exact w_c7
set_option maxRecDepth 65536 in
theorem w_t1 : (words1.take 24).all (fun c => isCode c || c.before args0 about1) = true := by decide +kernel
set_option maxRecDepth 65536 in
theorem w_t2 : (words1.drop 24).all (fun c => isCode c || c.before args0 about1) = true := by decide +kernel
theorem w_tables : (allAtoms (Jvm.Cond.code x code maxLocals ret :: tables_1)).before args0 about1 = true := by
  rw [allAtoms_all]
  show words1.all (fun c => c.before args0 about1) = true
  refine all_split ?_ w_codes
  rw [← List.take_append_drop 24 words1, List.all_append, w_t1, w_t2]
  rfl
set_option maxRecDepth 65536 in
theorem w_rest : rest_1_c.before args0 about1 = true := by decide +kernel
set_option maxRecDepth 65536 in
theorem w_case : (Jvm.Cond.and given_1 narrow_1).before args0 about1 = true := by decide +kernel
theorem w_applies : (headSpec (Jvm.Cond.code x code maxLocals ret :: tables_1) room_1).applies x e0.platform about1 = true :=
  (Spec.applies_iff w_frames).mpr ⟨w_running, w_runnable, w_alone, w_named, w_hears, w_ripe, w_room, w_tables⟩
theorem atStart : AtStart classFile x code maxLocals ret World_1 tables_1 room_1 Calls_1 rest_1 Pre_1 launch0 p0 e0 about1 theMethod args0 below0 :=
  ⟨lists_1, trivial, launch0.admits_env _ _ _, launch0.least_env, fairChoices_fair.cas, fairChoices_fair.clock, w_frames, w_args, w_heap, w_applies, trivial, w_rest, w_case⟩
end start1
theorem witness_1 : WitnessClaimed_1 := ⟨start1.p0, start1.e0, start1.about1, start1.theMethod, start1.args0, start1.below0, start1.atStart⟩
end Jvm.Pilot.@@N@@
