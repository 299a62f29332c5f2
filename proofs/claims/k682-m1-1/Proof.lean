import JvmDerived
import JvmDerived.Pilot.@@N@@Statement
import JvmDerived.Pilot.@@N@@Code
set_option linter.unusedVariables false
set_option linter.unusedSimpArgs false
namespace Jvm.RoadKit
open Sem ClassFile Op Lib Jvm.Stand Jvm.Free Jvm.LawKit
section New
variable {p : Program} {l : Launch} {e : Env} {R : Room} {s : State} {m : MethodId} {args : Array Value} {below : List Frame} {meth : Method} {c : Code} {T : State} {locs : List Loc} {cells slots : Nat}
theorem retI (X : Stand p l e R s m args below meth c T locs cells slots) (hx : p.tables.exec = Jvm.exec) {pc : Nat} {Ls : Array Slot} {z : Int32} {rest : List Value} (hret : meth.sig.returnType = some .int) (hd : decode c.code pc = .ok (.ireturn, 1)) {fs : List Frame}
    (hl : ∀ (f : JFrame) (acts : List Action), f.method = m → f.locked = none → f.entered = [] → (doReturn e (T.setTop f) acts (some (.int z))).1 = T.setFrames fs) : Steps p.tables e below (T.setTop (mkF m pc Ls (.int z :: rest))) (T.setFrames fs) := by
  have hm' : T.vm.method? m = some meth := X.method'
  have hn : narrow .int (.int z) = .int z := rfl
  show Steps p.tables e below (T.setTop { method := m, pc := pc, locals := Ls, stack := _ :: rest, locked := none }) _
  jvm_step X.here [X.here.top, hx, hd, hm', hret, hn]
  first | (intro acts; rw [hl _ acts rfl rfl rfl]) | rw [hl _ _ rfl rfl rfl]
  exact Steps.refl _
end New
end Jvm.RoadKit
namespace Jvm.RoadKit
open Sem ClassFile Op Lib Jvm.Stand Jvm.Free Jvm.LawKit
theorem own_lremM {p : Program} {l : Launch} {e : Env} {R : Room} {s : State} {m : MethodId} {args : Array Value} {below : List Frame} {meth : Method} {c : Code} {T : State} {locs : List Loc} {cells slots : Nat} {g : JFrame} {target : State} (X : Stand p l e R s m args below meth c T locs cells slots) (hx : p.tables.exec = Jvm.exec) (hg : g.method = m) {x y : Int64} {rest : List Value} (hd : decode c.code g.pc = .ok (.lrem, 1)) (hs : g.stack = .long y :: .long x :: rest) (hy : y ≠ 0)
    (hr : Steps p.tables e below (T.setTop { g with pc := g.pc + 1, stack := .long (x % y) :: rest }) target) : Steps p.tables e below (T.setTop g) target := by
  have q : x - x / y * y = x % y := lrem_mod x y
  exact XS.lrem X.here hx hg hd hs hy (by rw [q]; exact hr)
end Jvm.RoadKit
namespace Jvm.Pilot.@@N@@
open Jvm Jvm.ClassFile Sem Op Lib Jvm.Free Jvm.Stand Jvm.LawKit Jvm.RoadKit Bundle Jvm.Pilot.@@N@@.Jvm.D
def QT (n0 : Nat) (v : Option Value) (h : Heap) (L : List Loc) : Prop := v = some (.int 1) ∧ Fr n0 L
def QP (r : Option Value) (h0 : Heap) (n0 : Nat) (v : Option Value) (h : Heap) (L : List Loc) : Prop := v = r ∧ Fr n0 L ∧ h = h0
theorem own_fld {Z : State} {args : Array Value} {t : Term} {C n d : String} {a : Addr} {i : Int32} (ev : t.eval args Z none [] Z = some (.ref a)) (h : (Cond.eq (Term.field t C n d) (Term.int i)).value args Z none Z [] = some true) : Fld Z Z.heap a C n d (.int i) := by
  have e := fld_at (C := C) (n := n) (dd := d) ev
  refine Fld.start ?_
  obtain ⟨x, y, h1, h2, k1, k2⟩ := cmp_v (Or.inl h)
  have h3 : y = .int i := (Option.some.inj ((Term.int_eval i).symm.trans h2)).symm
  subst h3
  obtain ⟨z, rfl⟩ := k2
  have q : z = i := by simpa [Cond.value, h1, h2] using h
  rw [← e, h1, q]
theorem own_fldn {Z : State} {args : Array Value} {t : Term} {C n d : String} {a : Addr} (ev : t.eval args Z none [] Z = some (.ref a)) (h : (Cond.eq (Term.field t C n d) Term.null).value args Z none Z [] = some true) : Fld Z Z.heap a C n d .null := Fld.start ((fld_at ev).symm.trans (null_v h))
theorem own_sti {Z : State} {args : Array Value} {C n d : String} {i : Int32} (h : (Cond.eq (Term.static C n d) (Term.int i)).value args Z none Z [] = some true) : (Term.static C n d).eval args Z none [] Z = some (.int i) := by
  obtain ⟨x, y, h1, h2, k1, k2⟩ := cmp_v (Or.inl h)
  have h3 : y = .int i := (Option.some.inj ((Term.int_eval i).symm.trans h2)).symm
  subst h3
  obtain ⟨z, rfl⟩ := k2
  have q : z = i := by simpa [Cond.value, h1, h2] using h
  rw [h1, q]
theorem own_sta_keep {Z : State} {h h' : Heap} {C n d : String} {v : Value} {ws : List Addr} (F : Sta Z h C n d v) (K : Keep h h' ws) (q : ∀ x ∈ ws, ∀ c : Cell, h[x]? = some c → c.vm.isStatics = false) : Sta Z h' C n d v := by
  obtain ⟨cf, i, k, f, st, cell, h1, h2, h3, h4, h5, h6, h7⟩ := F
  have ne : st ∉ ws := fun z => by rw [q st z cell h5] at h6; cases h6
  exact ⟨cf, i, k, f, st, cell, h1, h2, h3, h4, K.2.1 st cell h5 ne, h6, h7⟩
theorem own_ns {h : Heap} {x : Addr} {ws : List Addr} (p : ∀ c : Cell, h[x]? = some c → c.vm.isStatics = false) (q : ∀ y ∈ ws, ∀ c : Cell, h[y]? = some c → c.vm.isStatics = false) : ∀ y ∈ x :: ws, ∀ c : Cell, h[y]? = some c → c.vm.isStatics = false := fun y hy => (List.mem_cons.mp hy).elim (fun e => e ▸ p) (q y)
theorem own_notin {a x : Addr} {ws : List Addr} (p : a ≠ x) (q : a ∉ ws) : a ∉ x :: ws := fun h => (List.mem_cons.mp h).elim p q
theorem own_stl {Z : State} {args : Array Value} {C n d : String} {i : Int64} (h : (Cond.eq (Term.static C n d) (Term.long i)).value args Z none Z [] = some true) : (Term.static C n d).eval args Z none [] Z = some (.long i) := by
  obtain ⟨x, y, h1, h2, k1, k2⟩ := cmp_v (Or.inl h)
  have h3 : y = .long i := by simpa [Term.eval] using h2.symm
  subst h3
  obtain ⟨z, rfl⟩ := k2
  have q : z = i := by simpa [Cond.value, h1, h2] using h
  rw [h1, q]
theorem own_res (p : Int64) : 0 ≤ ((p &&& (9223372036854775807 : Int64)) % (536870923 : Int64)).toInt ∧ ((p &&& (9223372036854775807 : Int64)) % (536870923 : Int64)).toInt < 536870923 := by
  have h := (c_andSL p (9223372036854775807 : Int64)).2.2 (by decide)
  have e : ((536870923 : Int64)).toInt = 536870923 := by decide
  rw [Int64.toInt_mod, e]
  rw [Int.tmod_eq_emod_of_nonneg h]
  omega
theorem own_c0 {x y : Int64} (h : x.toInt < y.toInt) : lcmpW x y < (0 : Int32) := by
  have q := (c_lcmp x y).1 h
  rw [Int32.lt_iff_toInt_lt, q]; decide
theorem own_c1 {x y : Int64} (h : y.toInt ≤ x.toInt) : ¬ (lcmpW x y < (0 : Int32)) := by
  rw [Int32.lt_iff_toInt_lt]
  have e : (0 : Int32).toInt = 0 := by decide
  rw [e]
  rcases Int.lt_or_eq_of_le h with q | q
  · rw [(c_lcmp x y).2.2 q]; decide
  · rw [(c_lcmp x y).2.1 q.symm]; decide
theorem own_c2 {x y : Int64} (h : x.toInt = y.toInt) : lcmpW x y = (0 : Int32) := by
  rw [← Int32.toInt_inj, (c_lcmp x y).2.1 h]; decide
theorem own_mulI {a b : Int64} (h : -9223372036854775808 ≤ a.toInt * b.toInt ∧ a.toInt * b.toInt < 9223372036854775808) : (a * b).toInt = a.toInt * b.toInt := by
  rw [Int64.toInt_mul]
  exact Int.bmod_eq_of_le_mul_two (by omega) (by omega)
theorem own_addI {a b : Int64} (h : -9223372036854775808 ≤ a.toInt + b.toInt ∧ a.toInt + b.toInt < 9223372036854775808) : (a + b).toInt = a.toInt + b.toInt := by
  rw [Int64.toInt_add]
  exact Int.bmod_eq_of_le_mul_two (by omega) (by omega)
theorem own_subI {a b : Int64} (h : -9223372036854775808 ≤ a.toInt - b.toInt ∧ a.toInt - b.toInt < 9223372036854775808) : (a - b).toInt = a.toInt - b.toInt := by
  rw [Int64.toInt_sub]
  exact Int.bmod_eq_of_le_mul_two (by omega) (by omega)
theorem own_prod {x y : Int} (h1 : 0 ≤ x) (h2 : x ≤ 536870923) (h3 : 0 ≤ y) (h4 : y ≤ 536870923) : 0 ≤ x * y ∧ x * y ≤ 288230387970703929 := by
  have q := Int.mul_le_mul h2 h4 h3 (by omega)
  exact ⟨Int.mul_nonneg h1 h3, by omega⟩
theorem own_modI {a : Int64} (h : 0 ≤ a.toInt) : (a % (536870923 : Int64)).toInt = a.toInt % 536870923 := by
  have e : ((536870923 : Int64)).toInt = 536870923 := by decide
  rw [Int64.toInt_mod, e, Int.tmod_eq_emod_of_nonneg h]
theorem own_same (r : Int64) : lcmpW r r = (0 : Int32) := own_c2 rfl
theorem own_zero (r f o : Int64) (h1 : 0 ≤ r.toInt ∧ r.toInt < 536870923) (h2 : 0 ≤ f.toInt ∧ f.toInt < 536870923) (h3 : 0 ≤ o.toInt ∧ o.toInt < 536870923) (hz : lcmpW f (0 : Int64) = (0 : Int32)) : ¬ (lcmpW (r - ((f * o) % (536870923 : Int64))) (0 : Int64) < (0 : Int32)) ∧ lcmpW r (r - ((f * o) % (536870923 : Int64))) = (0 : Int32) := by
  have z : (0 : Int64).toInt = 0 := by decide
  have f0 : f.toInt = 0 := by
    have q := (c_lcmp f (0 : Int64)).2.2
    rw [hz, z] at q
    have e : (0 : Int32).toInt = 0 := by decide
    rw [e] at q
    rcases Int.lt_or_eq_of_le h2.1 with k | k
    · exact absurd (q k) (by decide)
    · exact k.symm
  have e1 : (f * o).toInt = 0 := by rw [own_mulI (by rw [f0]; omega), f0]; omega
  have e2 : ((f * o) % (536870923 : Int64)).toInt = 0 := by rw [own_modI (by omega), e1]; omega
  have e3 : (r - ((f * o) % (536870923 : Int64))).toInt = r.toInt := by rw [own_subI (by omega), e2]; omega
  exact ⟨own_c1 (by omega), own_c2 (by omega)⟩
theorem own_int (r X Y o : Int) (h1 : 0 ≤ r) (h2 : r < 536870923) (h3 : Y = 536870923 * o - X) : (r - X % 536870923 < 0 → (r + Y) % 536870923 = r - X % 536870923 + 536870923) ∧ (¬ (r - X % 536870923 < 0) → (r + Y) % 536870923 = r - X % 536870923) := by
  subst h3
  have e : r + (536870923 * o - X) = (r - X) + 536870923 * o := by omega
  rw [e, Int.add_mul_emod_self_left]
  constructor
  · intro k; omega
  · intro k; omega
theorem own_addB {a b : Int64} {x y : Int} (ha : a.toInt = x) (hb : b.toInt = y) (h1 : -9223372036854775808 ≤ x + y) (h2 : x + y < 9223372036854775808) : (a + b).toInt = x + y := by
  subst ha hb
  exact own_addI ⟨h1, h2⟩
theorem own_subB {a b : Int64} {x y : Int} (ha : a.toInt = x) (hb : b.toInt = y) (h1 : -9223372036854775808 ≤ x - y) (h2 : x - y < 9223372036854775808) : (a - b).toInt = x - y := by
  subst ha hb
  exact own_subI ⟨h1, h2⟩
theorem own_mulB {a b : Int64} {x y : Int} (ha : a.toInt = x) (hb : b.toInt = y) (h1 : -9223372036854775808 ≤ x * y) (h2 : x * y < 9223372036854775808) : (a * b).toInt = x * y := by
  subst ha hb
  exact own_mulI ⟨h1, h2⟩
theorem own_modB {a : Int64} {x : Int} (ha : a.toInt = x) (h1 : 0 ≤ x) : (a % (536870923 : Int64)).toInt = x % 536870923 := by
  subst ha
  exact own_modI h1
theorem own_b1 (r Y : Int) (a1 : 0 ≤ r) (a2 : r < 536870923) (q3 : 0 ≤ Y) (q4 : Y ≤ 288230387970703929) : -9223372036854775808 ≤ r + Y ∧ r + Y < 9223372036854775808 ∧ 0 ≤ r + Y := by omega
theorem own_b2 (r M : Int) (a1 : 0 ≤ r) (a2 : r < 536870923) (m1 : 0 ≤ M) (m2 : M < 536870923) : -9223372036854775808 ≤ r - M ∧ r - M < 9223372036854775808 ∧ -9223372036854775808 ≤ r - M + 536870923 ∧ r - M + 536870923 < 9223372036854775808 := by omega
theorem own_full (r f o : Int64) (h1 : 0 ≤ r.toInt ∧ r.toInt < 536870923) (h2 : 0 ≤ f.toInt ∧ f.toInt < 536870923) (h3 : 0 ≤ o.toInt ∧ o.toInt < 536870923) :
    (lcmpW (r - ((f * o) % (536870923 : Int64))) (0 : Int64) < (0 : Int32) ∧ lcmpW ((r + (((536870923 : Int64) - f) * o)) % (536870923 : Int64)) ((r - ((f * o) % (536870923 : Int64))) + (536870923 : Int64)) = (0 : Int32)) ∨ (¬ (lcmpW (r - ((f * o) % (536870923 : Int64))) (0 : Int64) < (0 : Int32)) ∧ lcmpW ((r + (((536870923 : Int64) - f) * o)) % (536870923 : Int64)) (r - ((f * o) % (536870923 : Int64))) = (0 : Int32)) := by
  have z : (0 : Int64).toInt = 0 := by decide
  have zP : ((536870923 : Int64)).toInt = 536870923 := by decide
  obtain ⟨a1, a2⟩ := h1
  obtain ⟨b1, b2⟩ := h2
  obtain ⟨c1, c2⟩ := h3
  obtain ⟨q1, q2⟩ := own_prod b1 (Int.le_of_lt b2) c1 (Int.le_of_lt c2)
  obtain ⟨q3, q4⟩ := own_prod (x := 536870923 - f.toInt) (by omega) (by omega) c1 (Int.le_of_lt c2)
  have e3 : ((536870923 : Int64) - f).toInt = 536870923 - f.toInt := own_subB zP rfl (by omega) (by omega)
  have e5 : (536870923 - f.toInt) * o.toInt = 536870923 * o.toInt - f.toInt * o.toInt := Int.sub_mul _ _ _
  obtain ⟨X, hX⟩ : ∃ X, f.toInt * o.toInt = X := ⟨_, rfl⟩
  obtain ⟨Y, hY⟩ : ∃ Y, (536870923 - f.toInt) * o.toInt = Y := ⟨_, rfl⟩
  rw [hX] at q1 q2 e5
  rw [hY] at q3 q4 e5
  have e1 : (f * o).toInt = X := by rw [own_mulI (by rw [hX]; exact ⟨by omega, by omega⟩), hX]
  have e4 : (((536870923 : Int64) - f) * o).toInt = Y := by rw [own_mulI (by rw [e3, hY]; exact ⟨by omega, by omega⟩), e3, hY]
  have i := own_int r.toInt X Y o.toInt a1 a2 e5
  clear hX hY e5 e3
  have e2 : ((f * o) % (536870923 : Int64)).toInt = X % 536870923 := own_modB e1 q1
  have m1 : 0 ≤ X % 536870923 := Int.emod_nonneg _ (by decide)
  have m2 : X % 536870923 < 536870923 := Int.emod_lt_of_pos _ (by decide)
  obtain ⟨M, hM⟩ : ∃ M, X % 536870923 = M := ⟨_, rfl⟩
  rw [hM] at e2 m1 m2 i
  have e6 : (r + (((536870923 : Int64) - f) * o)).toInt = r.toInt + Y := own_addB rfl e4 (own_b1 _ _ a1 a2 q3 q4).1 (own_b1 _ _ a1 a2 q3 q4).2.1
  have e7 : ((r + (((536870923 : Int64) - f) * o)) % (536870923 : Int64)).toInt = (r.toInt + Y) % 536870923 := own_modB e6 (own_b1 _ _ a1 a2 q3 q4).2.2
  have e8 : (r - ((f * o) % (536870923 : Int64))).toInt = r.toInt - M := own_subB rfl e2 (own_b2 _ _ a1 a2 m1 m2).1 (own_b2 _ _ a1 a2 m1 m2).2.1
  by_cases k : r.toInt - M < 0
  · have e9 : ((r - ((f * o) % (536870923 : Int64))) + (536870923 : Int64)).toInt = r.toInt - M + 536870923 := own_addB e8 zP (own_b2 _ _ a1 a2 m1 m2).2.2.1 (own_b2 _ _ a1 a2 m1 m2).2.2.2
    exact Or.inl ⟨own_c0 (by rw [e8, z]; exact k), own_c2 (by rw [e7, e9]; exact i.1 k)⟩
  · exact Or.inr ⟨own_c1 (by rw [e8, z]; exact Int.not_lt.mp k), own_c2 (by rw [e7, e8]; exact i.2 k)⟩
theorem tw_1 {a0 : Array Value} {Z : State} (hw : ∀ d ∈ tables_1, d.before a0 Z = true) : (Jvm.Cond.initialized "com/example/subsumption/subsumption/SquareSystem").before a0 Z = true := hw _ (List.mem_of_getElem? (i := 1) rfl)
theorem tw_2 {a0 : Array Value} {Z : State} (hw : ∀ d ∈ tables_1, d.before a0 Z = true) : (Jvm.Cond.laysStatic "com/example/subsumption/subsumption/SquareSystem" "PRIME" "J").before a0 Z = true := hw _ (List.mem_of_getElem? (i := 2) rfl)
abbrev S_0 (Z : State) (h : Heap) (v : Value) : Prop := Sta Z h "com/example/subsumption/subsumption/SquareSystem" "PRIME" "J" v
theorem tw_0 {a0 : Array Value} {Z : State} (hw : ∀ d ∈ tables_1, d.before a0 Z = true) : (Jvm.Cond.fieldLink "com/example/subsumption/subsumption/SquareSystemSubtractTimesPinLaw" (7 : Nat) "com/example/subsumption/subsumption/SquareSystem" "PRIME" "J").before a0 Z = true := hw _ (List.mem_of_getElem? (i := 0) rfl)
theorem tw_3 {a0 : Array Value} {Z : State} (hw : ∀ d ∈ tables_1, d.before a0 Z = true) : (Jvm.Cond.constantLong "com/example/subsumption/subsumption/SquareSystemSubtractTimesPinLaw" (15 : Nat) (9223372036854775807 : Int64)).before a0 Z = true := hw _ (List.mem_of_getElem? (i := 3) rfl)
theorem tw_4 {a0 : Array Value} {Z : State} (hw : ∀ d ∈ tables_1, d.before a0 Z = true) : (Jvm.Cond.arrayClass Jvm.ClassFile.FieldType.long).before a0 Z = true := hw _ (List.mem_of_getElem? (i := 4) rfl)
theorem tw_5 {a0 : Array Value} {Z : State} (hw : ∀ d ∈ tables_1, d.before a0 Z = true) : (Jvm.Cond.methodLink "com/example/subsumption/subsumption/SquareSystemSubtractTimesPinLaw" (17 : Nat) ({ cls := "com/example/subsumption/subsumption/SquareSystem", name := "subtractTimes", desc := "([JJ[J)V" } : Jvm.MethodName)).before a0 Z = true := hw _ (List.mem_of_getElem? (i := 5) rfl)
theorem tw_7 {a0 : Array Value} {Z : State} (hw : ∀ d ∈ tables_1, d.before a0 Z = true) : (Jvm.Cond.code ({ cls := "com/example/subsumption/subsumption/SquareSystem", name := "subtractTimes", desc := "([JJ[J)V" } : Jvm.MethodName) prog_16_method_10_code (7 : Nat) (Option.none : Option Jvm.ClassFile.FieldType)).before a0 Z = true := hw _ (List.mem_of_getElem? (i := 7) rfl)
theorem d1_0 : decode prog_16_method_10_code 0 = .ok (.lload_n 1, 1) := by decide +kernel
theorem d1_1 : decode prog_16_method_10_code 1 = .ok (.lconst 0, 1) := by decide +kernel
theorem d1_2 : decode prog_16_method_10_code 2 = .ok (.lcmp, 1) := by decide +kernel
theorem d1_3 : decode prog_16_method_10_code 3 = .ok (.ifCond .ne 4, 3) := by decide +kernel
theorem d1_6 : decode prog_16_method_10_code 6 = .ok (.return_, 1) := by decide +kernel
abbrev R_0_0_0_0 : Room := { frames := 0, cells := 0, slots := 0, locals := 0 }
abbrev M_0 : MethodName := ⟨"com/example/subsumption/subsumption/SquareSystem", "subtractTimes", "([JJ[J)V"⟩
theorem ef1_RJR (m : MethodId) (x0 : Addr) (x1 : Int64) (x2 : Addr) : entryFrame m #[(.ref x0), (.long x1), (.ref x2)] 7 = mkF m 0 #[.val (.ref x0), .val (.long x1), .second, .val (.ref x2), .unset, .unset, .unset] [] := by first | (simp [entryFrame, mkF, argsToLocals, Value.category]; done) | rfl
theorem pn_com_example_subsumption_subsumption_SquareSystem : plainName "com/example/subsumption/subsumption/SquareSystem" = true := by first | (simp [plainName, overriddenIn]; done) | decide +kernel
set_option maxRecDepth 65536 in
set_option maxHeartbeats 40000000 in
theorem rm1_5 (l : Launch) (Z : State) (a0 : Array Value) (hw : ∀ d ∈ tables_1, d.before a0 Z = true) (ws : List Jvm.Cond) (c0_a : Addr) (jr4 : Int64) (c1_a : Addr) (h0 : Heap) (n0 : Nat) (Z0 : n0 ≤ h0.size) (f1 : (lcmpW jr4 (0 : Int64)) = (0 : Int32)) :
    MetFree l M_0 (head1 (Jvm.Cond.code M_0 prog_16_method_10_code 7 none :: ws) R_0_0_0_0) (fun a U => a = #[(.ref c0_a), (.long jr4), (.ref c1_a)] ∧ Z.Warmed39 U.vm ∧ U.heap = h0) (fun _ _ _ _ _ => True) (fun _ U o U' => ∃ v L, o = .returned v ∧ QP none h0 n0 v U'.heap L ∧ FrameEnd U o U' L R_0_0_0_0.cells R_0_0_0_0.slots) := by
  refine MetFree.of_bodySF (plainFor_of_name pn_com_example_subsumption_subsumption_SquareSystem) hisR ?_
  intro p e s m args below meth c s₁ Bd hml0 hP hK
  obtain ⟨rfl, hZ, hh⟩ := hP
  have hx := Bd.exec
  have hby := Bd.bytes
  have hml : c.maxLocals = 7 := hml0
  have hown : s.vm.findClass "com/example/subsumption/subsumption/SquareSystem" = some m.cls := findClass_of_methodNamed Bd.named
  have hnm := (name_of_methodNamed Bd.named Bd.method).1
  have X0 : Stand p l e R_0_0_0_0 s m #[(.ref c0_a), (.long jr4), (.ref c1_a)] below meth c s₁ [] 0 0 := Stand.of_body Bd
  have e0 : s₁.heap = h0 := by rw [← hh, Bd.state]; rfl
  have N0 := Fr.nil n0
  obtain ⟨fs, hr, hrun, hended, hW, hsame⟩ := X0.leave (v := none) (fun _ => rfl)
  refine ⟨_, _, castTop (ef1_RJR m c0_a jr4 c1_a) ?_, hrun, hended, _, _, rfl, ?_, ⟨_, rfl⟩, hW, hsame.mono (by decide) (by decide)⟩
  · show Steps p.tables e below (s₁.setTop (mkF m 0 #[.val (.ref c0_a), .val (.long jr4), .second, .val (.ref c1_a), .unset, .unset, .unset] [])) _
    refine XS.lloadN X0.here hx rfl (hb hby d1_0) rfl ?_
    refine XS.lconst X0.here hx rfl (hb hby d1_1) ?_
    show Steps p.tables e below (s₁.setTop (mkF m 2 #[.val (.ref c0_a), .val (.long jr4), .second, .val (.ref c1_a), .unset, .unset, .unset] [(.long 0), (.long jr4)])) _
    refine XS.lcmp X0.here hx rfl (hb hby d1_2) rfl ?_
    refine XS.ifNo X0.here hx rfl (hb hby d1_3) rfl ((if0 _ _).trans (teq (f1 : (lcmpW jr4 (0 : Int64)) = (0 : Int32))).2) ?_
    show Steps p.tables e below (s₁.setTop (mkF m 6 #[.val (.ref c0_a), .val (.long jr4), .second, .val (.ref c1_a), .unset, .unset, .unset] [])) _
    exact X0.returnOut hx Bd.returns (hb hby d1_6) hr
  · show QP none h0 n0 _ s₁.heap _
    rw [e0]
    exact ⟨rfl, N0, rfl⟩
theorem pd_0 : parseMethodDescriptor "([JJ[J)V" = some ⟨[(.array .long), .long, (.array .long)], none⟩ := by decide +kernel
theorem tw_6 {a0 : Array Value} {Z : State} (hw : ∀ d ∈ tables_1, d.before a0 Z = true) : (Jvm.Cond.static ({ cls := "com/example/subsumption/subsumption/SquareSystem", name := "subtractTimes", desc := "([JJ[J)V" } : Jvm.MethodName)).before a0 Z = true := hw _ (List.mem_of_getElem? (i := 6) rfl)
theorem tw_8 {a0 : Array Value} {Z : State} (hw : ∀ d ∈ tables_1, d.before a0 Z = true) : (Jvm.Cond.methodLink "com/example/subsumption/subsumption/SquareSystemSubtractTimesPinLaw" (21 : Nat) ({ cls := "com/example/subsumption/subsumption/SquareSystemSubtractTimesPinLaw", name := "expected", desc := "(JJJJ)J" } : Jvm.MethodName)).before a0 Z = true := hw _ (List.mem_of_getElem? (i := 8) rfl)
theorem tw_11 {a0 : Array Value} {Z : State} (hw : ∀ d ∈ tables_1, d.before a0 Z = true) : (Jvm.Cond.code ({ cls := "com/example/subsumption/subsumption/SquareSystemSubtractTimesPinLaw", name := "expected", desc := "(JJJJ)J" } : Jvm.MethodName) method_3_code (12 : Nat) (Option.some Jvm.ClassFile.FieldType.long)).before a0 Z = true := hw _ (List.mem_of_getElem? (i := 11) rfl)
theorem d2_0 : decode method_3_code 0 = .ok (.lload_n 2, 1) := by decide +kernel
theorem d2_1 : decode method_3_code 1 = .ok (.lload 4, 2) := by decide +kernel
theorem d2_3 : decode method_3_code 3 = .ok (.lmul, 1) := by decide +kernel
theorem d2_4 : decode method_3_code 4 = .ok (.lload 6, 2) := by decide +kernel
theorem d2_6 : decode method_3_code 6 = .ok (.lrem, 1) := by decide +kernel
theorem d2_7 : decode method_3_code 7 = .ok (.lstore 8, 2) := by decide +kernel
theorem d2_9 : decode method_3_code 9 = .ok (.lload_n 0, 1) := by decide +kernel
theorem d2_10 : decode method_3_code 10 = .ok (.lload 8, 2) := by decide +kernel
theorem d2_12 : decode method_3_code 12 = .ok (.lsub, 1) := by decide +kernel
theorem d2_13 : decode method_3_code 13 = .ok (.lstore 10, 2) := by decide +kernel
theorem d2_15 : decode method_3_code 15 = .ok (.lload 10, 2) := by decide +kernel
theorem d2_17 : decode method_3_code 17 = .ok (.lconst 0, 1) := by decide +kernel
theorem d2_18 : decode method_3_code 18 = .ok (.lcmp, 1) := by decide +kernel
theorem d2_19 : decode method_3_code 19 = .ok (.ifCond .ge 10, 3) := by decide +kernel
theorem d2_29 : decode method_3_code 29 = .ok (.lload 10, 2) := by decide +kernel
theorem d2_31 : decode method_3_code 31 = .ok (.lreturn, 1) := by decide +kernel
abbrev M_1 : MethodName := ⟨"com/example/subsumption/subsumption/SquareSystemSubtractTimesPinLaw", "expected", "(JJJJ)J"⟩
theorem ef2_JJJJ (m : MethodId) (x0 : Int64) (x1 : Int64) (x2 : Int64) (x3 : Int64) : entryFrame m #[(.long x0), (.long x1), (.long x2), (.long x3)] 12 = mkF m 0 #[.val (.long x0), .second, .val (.long x1), .second, .val (.long x2), .second, .val (.long x3), .second, .unset, .unset, .unset, .unset] [] := by first | (simp [entryFrame, mkF, argsToLocals, Value.category]; done) | rfl
theorem pn_com_example_subsumption_subsumption_SquareSystemSubtractTimesPinLaw : plainName "com/example/subsumption/subsumption/SquareSystemSubtractTimesPinLaw" = true := by first | (simp [plainName, overriddenIn]; done) | decide +kernel
set_option maxRecDepth 65536 in
set_option maxHeartbeats 40000000 in
theorem rm2_6 (l : Launch) (Z : State) (a0 : Array Value) (hw : ∀ d ∈ tables_1, d.before a0 Z = true) (ws : List Jvm.Cond) (jr0 : Int64) (jr4 : Int64) (jr2 : Int64) (jt0 : Int64) (jd0 : Int64) (h0 : Heap) (n0 : Nat) (Z0 : n0 ≤ h0.size) (f1 : ((jr4 * jr2) % (536870923 : Int64)) = jt0) (f2 : (jr0 - jt0) = jd0) (f3 : ¬ ((lcmpW jd0 (0 : Int64)) < (0 : Int32))) :
    MetFree l M_1 (head1 (Jvm.Cond.code M_1 method_3_code 12 (some .long) :: ws) R_0_0_0_0) (fun a U => a = #[(.long jr0), (.long jr4), (.long jr2), (.long 536870923)] ∧ Z.Warmed39 U.vm ∧ U.heap = h0) (fun _ _ _ _ _ => True) (fun _ U o U' => ∃ v L, o = .returned v ∧ QP (some (.long jd0)) h0 n0 v U'.heap L ∧ FrameEnd U o U' L R_0_0_0_0.cells R_0_0_0_0.slots) := by
  refine MetFree.of_bodySF (plainFor_of_name pn_com_example_subsumption_subsumption_SquareSystemSubtractTimesPinLaw) hisR ?_
  intro p e s m args below meth c s₁ Bd hml0 hP hK
  obtain ⟨rfl, hZ, hh⟩ := hP
  have hx := Bd.exec
  have hby := Bd.bytes
  have hml : c.maxLocals = 12 := hml0
  have hown : s.vm.findClass "com/example/subsumption/subsumption/SquareSystemSubtractTimesPinLaw" = some m.cls := findClass_of_methodNamed Bd.named
  have hnm := (name_of_methodNamed Bd.named Bd.method).1
  have X0 : Stand p l e R_0_0_0_0 s m #[(.long jr0), (.long jr4), (.long jr2), (.long 536870923)] below meth c s₁ [] 0 0 := Stand.of_body Bd
  have e0 : s₁.heap = h0 := by rw [← hh, Bd.state]; rfl
  have N0 := Fr.nil n0
  obtain ⟨fs, hr, hrun, hended, hW, hsame⟩ := X0.leave (v := (some (.long jd0))) (fun h => by rw [Bd.returns] at h; cases h)
  refine ⟨_, _, castTop (ef2_JJJJ m jr0 jr4 jr2 (536870923 : Int64)) ?_, hrun, hended, _, _, rfl, ?_, ⟨_, rfl⟩, hW, hsame.mono (by decide) (by decide)⟩
  · show Steps p.tables e below (s₁.setTop (mkF m 0 #[.val (.long jr0), .second, .val (.long jr4), .second, .val (.long jr2), .second, .val (.long 536870923), .second, .unset, .unset, .unset, .unset] [])) _
    refine XS.lloadN X0.here hx rfl (hb hby d2_0) rfl ?_
    refine XS.lload X0.here hx rfl (hb hby d2_1) rfl ?_
    show Steps p.tables e below (s₁.setTop (mkF m 3 #[.val (.long jr0), .second, .val (.long jr4), .second, .val (.long jr2), .second, .val (.long 536870923), .second, .unset, .unset, .unset, .unset] [(.long jr2), (.long jr4)])) _
    refine XS.lmul X0.here hx rfl (hb hby d2_3) rfl ?_
    refine XS.lload X0.here hx rfl (hb hby d2_4) rfl ?_
    show Steps p.tables e below (s₁.setTop (mkF m 6 #[.val (.long jr0), .second, .val (.long jr4), .second, .val (.long jr2), .second, .val (.long 536870923), .second, .unset, .unset, .unset, .unset] [(.long 536870923), (.long (jr4 * jr2))])) _
    refine own_lremM X0 hx rfl (hb hby d2_6) rfl (by decide) ?_
    show Steps p.tables e below (s₁.setTop (mkF m 7 #[.val (.long jr0), .second, .val (.long jr4), .second, .val (.long jr2), .second, .val (.long 536870923), .second, .unset, .unset, .unset, .unset] [(.long ((jr4 * jr2) % (536870923 : Int64)))])) _
    rw [f1]
    refine XS.lstore X0.here hx rfl (hb hby d2_7) rfl (l' := #[.val (.long jr0), .second, .val (.long jr4), .second, .val (.long jr2), .second, .val (.long 536870923), .second, .val (.long jt0), .second, .unset, .unset]) rfl ?_
    refine XS.lloadN X0.here hx rfl (hb hby d2_9) rfl ?_
    refine XS.lload X0.here hx rfl (hb hby d2_10) rfl ?_
    show Steps p.tables e below (s₁.setTop (mkF m 12 #[.val (.long jr0), .second, .val (.long jr4), .second, .val (.long jr2), .second, .val (.long 536870923), .second, .val (.long jt0), .second, .unset, .unset] [(.long jt0), (.long jr0)])) _
    refine XS.lsub X0.here hx rfl (hb hby d2_12) rfl ?_
    show Steps p.tables e below (s₁.setTop (mkF m 13 #[.val (.long jr0), .second, .val (.long jr4), .second, .val (.long jr2), .second, .val (.long 536870923), .second, .val (.long jt0), .second, .unset, .unset] [(.long (jr0 - jt0))])) _
    rw [f2]
    refine XS.lstore X0.here hx rfl (hb hby d2_13) rfl (l' := #[.val (.long jr0), .second, .val (.long jr4), .second, .val (.long jr2), .second, .val (.long 536870923), .second, .val (.long jt0), .second, .val (.long jd0), .second]) rfl ?_
    refine XS.lload X0.here hx rfl (hb hby d2_15) rfl ?_
    refine XS.lconst X0.here hx rfl (hb hby d2_17) ?_
    show Steps p.tables e below (s₁.setTop (mkF m 18 #[.val (.long jr0), .second, .val (.long jr4), .second, .val (.long jr2), .second, .val (.long 536870923), .second, .val (.long jt0), .second, .val (.long jd0), .second] [(.long 0), (.long jd0)])) _
    refine XS.lcmp X0.here hx rfl (hb hby d2_18) rfl ?_
    refine XS.ifYes X0.here hx rfl (pc0 := 19) (pc' := 29) rfl (hb hby d2_19) rfl ((if0 _ _).trans (flt (f3 : ¬ ((lcmpW jd0 (0 : Int64)) < (0 : Int32)))).2.1) (by decide) (by decide) ?_
    refine XS.lload X0.here hx rfl (hb hby d2_29) rfl ?_
    show Steps p.tables e below (s₁.setTop (mkF m 31 #[.val (.long jr0), .second, .val (.long jr4), .second, .val (.long jr2), .second, .val (.long 536870923), .second, .val (.long jt0), .second, .val (.long jd0), .second] [(.long jd0)])) _
    jvm_step X0.here [X0.here.top, hx, (hb hby d2_31), X0.method', Bd.returns, narrow]
    first | (intro acts; rw [hr _ acts rfl rfl rfl]) | rw [hr _ _ rfl rfl rfl]
    exact Steps.refl _
  · show QP (some (.long jd0)) h0 n0 _ s₁.heap _
    rw [e0]
    exact ⟨rfl, N0, rfl⟩
theorem tw_10 {a0 : Array Value} {Z : State} (hw : ∀ d ∈ tables_1, d.before a0 Z = true) : (Jvm.Cond.initialized "com/example/subsumption/subsumption/SquareSystemSubtractTimesPinLaw").before a0 Z = true := hw _ (List.mem_of_getElem? (i := 10) rfl)
theorem pd_1 : parseMethodDescriptor "(JJJJ)J" = some ⟨[.long, .long, .long, .long], some .long⟩ := by decide +kernel
theorem tw_9 {a0 : Array Value} {Z : State} (hw : ∀ d ∈ tables_1, d.before a0 Z = true) : (Jvm.Cond.static ({ cls := "com/example/subsumption/subsumption/SquareSystemSubtractTimesPinLaw", name := "expected", desc := "(JJJJ)J" } : Jvm.MethodName)).before a0 Z = true := hw _ (List.mem_of_getElem? (i := 9) rfl)
set_option maxRecDepth 65536 in
set_option maxHeartbeats 40000000 in
theorem rm2_7 (l : Launch) (Z : State) (a0 : Array Value) (hw : ∀ d ∈ tables_1, d.before a0 Z = true) (ws : List Jvm.Cond) (jr1 : Int64) (jr4 : Int64) (jr3 : Int64) (jt1 : Int64) (jd1 : Int64) (h0 : Heap) (n0 : Nat) (Z0 : n0 ≤ h0.size) (f1 : ((jr4 * jr3) % (536870923 : Int64)) = jt1) (f2 : (jr1 - jt1) = jd1) (f3 : ¬ ((lcmpW jd1 (0 : Int64)) < (0 : Int32))) :
    MetFree l M_1 (head1 (Jvm.Cond.code M_1 method_3_code 12 (some .long) :: ws) R_0_0_0_0) (fun a U => a = #[(.long jr1), (.long jr4), (.long jr3), (.long 536870923)] ∧ Z.Warmed39 U.vm ∧ U.heap = h0) (fun _ _ _ _ _ => True) (fun _ U o U' => ∃ v L, o = .returned v ∧ QP (some (.long jd1)) h0 n0 v U'.heap L ∧ FrameEnd U o U' L R_0_0_0_0.cells R_0_0_0_0.slots) := by
  refine MetFree.of_bodySF (plainFor_of_name pn_com_example_subsumption_subsumption_SquareSystemSubtractTimesPinLaw) hisR ?_
  intro p e s m args below meth c s₁ Bd hml0 hP hK
  obtain ⟨rfl, hZ, hh⟩ := hP
  have hx := Bd.exec
  have hby := Bd.bytes
  have hml : c.maxLocals = 12 := hml0
  have hown : s.vm.findClass "com/example/subsumption/subsumption/SquareSystemSubtractTimesPinLaw" = some m.cls := findClass_of_methodNamed Bd.named
  have hnm := (name_of_methodNamed Bd.named Bd.method).1
  have X0 : Stand p l e R_0_0_0_0 s m #[(.long jr1), (.long jr4), (.long jr3), (.long 536870923)] below meth c s₁ [] 0 0 := Stand.of_body Bd
  have e0 : s₁.heap = h0 := by rw [← hh, Bd.state]; rfl
  have N0 := Fr.nil n0
  obtain ⟨fs, hr, hrun, hended, hW, hsame⟩ := X0.leave (v := (some (.long jd1))) (fun h => by rw [Bd.returns] at h; cases h)
  refine ⟨_, _, castTop (ef2_JJJJ m jr1 jr4 jr3 (536870923 : Int64)) ?_, hrun, hended, _, _, rfl, ?_, ⟨_, rfl⟩, hW, hsame.mono (by decide) (by decide)⟩
  · show Steps p.tables e below (s₁.setTop (mkF m 0 #[.val (.long jr1), .second, .val (.long jr4), .second, .val (.long jr3), .second, .val (.long 536870923), .second, .unset, .unset, .unset, .unset] [])) _
    refine XS.lloadN X0.here hx rfl (hb hby d2_0) rfl ?_
    refine XS.lload X0.here hx rfl (hb hby d2_1) rfl ?_
    show Steps p.tables e below (s₁.setTop (mkF m 3 #[.val (.long jr1), .second, .val (.long jr4), .second, .val (.long jr3), .second, .val (.long 536870923), .second, .unset, .unset, .unset, .unset] [(.long jr3), (.long jr4)])) _
    refine XS.lmul X0.here hx rfl (hb hby d2_3) rfl ?_
    refine XS.lload X0.here hx rfl (hb hby d2_4) rfl ?_
    show Steps p.tables e below (s₁.setTop (mkF m 6 #[.val (.long jr1), .second, .val (.long jr4), .second, .val (.long jr3), .second, .val (.long 536870923), .second, .unset, .unset, .unset, .unset] [(.long 536870923), (.long (jr4 * jr3))])) _
    refine own_lremM X0 hx rfl (hb hby d2_6) rfl (by decide) ?_
    show Steps p.tables e below (s₁.setTop (mkF m 7 #[.val (.long jr1), .second, .val (.long jr4), .second, .val (.long jr3), .second, .val (.long 536870923), .second, .unset, .unset, .unset, .unset] [(.long ((jr4 * jr3) % (536870923 : Int64)))])) _
    rw [f1]
    refine XS.lstore X0.here hx rfl (hb hby d2_7) rfl (l' := #[.val (.long jr1), .second, .val (.long jr4), .second, .val (.long jr3), .second, .val (.long 536870923), .second, .val (.long jt1), .second, .unset, .unset]) rfl ?_
    refine XS.lloadN X0.here hx rfl (hb hby d2_9) rfl ?_
    refine XS.lload X0.here hx rfl (hb hby d2_10) rfl ?_
    show Steps p.tables e below (s₁.setTop (mkF m 12 #[.val (.long jr1), .second, .val (.long jr4), .second, .val (.long jr3), .second, .val (.long 536870923), .second, .val (.long jt1), .second, .unset, .unset] [(.long jt1), (.long jr1)])) _
    refine XS.lsub X0.here hx rfl (hb hby d2_12) rfl ?_
    show Steps p.tables e below (s₁.setTop (mkF m 13 #[.val (.long jr1), .second, .val (.long jr4), .second, .val (.long jr3), .second, .val (.long 536870923), .second, .val (.long jt1), .second, .unset, .unset] [(.long (jr1 - jt1))])) _
    rw [f2]
    refine XS.lstore X0.here hx rfl (hb hby d2_13) rfl (l' := #[.val (.long jr1), .second, .val (.long jr4), .second, .val (.long jr3), .second, .val (.long 536870923), .second, .val (.long jt1), .second, .val (.long jd1), .second]) rfl ?_
    refine XS.lload X0.here hx rfl (hb hby d2_15) rfl ?_
    refine XS.lconst X0.here hx rfl (hb hby d2_17) ?_
    show Steps p.tables e below (s₁.setTop (mkF m 18 #[.val (.long jr1), .second, .val (.long jr4), .second, .val (.long jr3), .second, .val (.long 536870923), .second, .val (.long jt1), .second, .val (.long jd1), .second] [(.long 0), (.long jd1)])) _
    refine XS.lcmp X0.here hx rfl (hb hby d2_18) rfl ?_
    refine XS.ifYes X0.here hx rfl (pc0 := 19) (pc' := 29) rfl (hb hby d2_19) rfl ((if0 _ _).trans (flt (f3 : ¬ ((lcmpW jd1 (0 : Int64)) < (0 : Int32)))).2.1) (by decide) (by decide) ?_
    refine XS.lload X0.here hx rfl (hb hby d2_29) rfl ?_
    show Steps p.tables e below (s₁.setTop (mkF m 31 #[.val (.long jr1), .second, .val (.long jr4), .second, .val (.long jr3), .second, .val (.long 536870923), .second, .val (.long jt1), .second, .val (.long jd1), .second] [(.long jd1)])) _
    jvm_step X0.here [X0.here.top, hx, (hb hby d2_31), X0.method', Bd.returns, narrow]
    first | (intro acts; rw [hr _ acts rfl rfl rfl]) | rw [hr _ _ rfl rfl rfl]
    exact Steps.refl _
  · show QP (some (.long jd1)) h0 n0 _ s₁.heap _
    rw [e0]
    exact ⟨rfl, N0, rfl⟩
theorem ef0_JJJJJ (m : MethodId) (x0 : Int64) (x1 : Int64) (x2 : Int64) (x3 : Int64) (x4 : Int64) : entryFrame m #[(.long x0), (.long x1), (.long x2), (.long x3), (.long x4)] maxLocals = mkF m 0 #[.val (.long x0), .second, .val (.long x1), .second, .val (.long x2), .second, .val (.long x3), .second, .val (.long x4), .second, .unset, .unset, .unset, .unset, .unset, .unset, .unset, .unset, .unset, .unset, .unset, .unset, .unset, .unset] [] := by first | (simp [entryFrame, mkF, argsToLocals, Value.category, maxLocals]; done) | rfl
set_option maxRecDepth 65536 in
set_option maxHeartbeats 40000000 in
theorem rm0_8 (l : Launch) (Z : State) (a0 : Array Value) (hw : ∀ d ∈ tables_1, d.before a0 Z = true) (ws : List Jvm.Cond) (p0 : Int64) (p1 : Int64) (p2 : Int64) (p3 : Int64) (p4 : Int64) (jr0 : Int64) (jr1 : Int64) (jr2 : Int64) (jr3 : Int64) (jr4 : Int64) (jt0 : Int64) (jd0 : Int64) (jt1 : Int64) (jd1 : Int64) (h0 : Heap) (n0 : Nat) (Z0 : n0 ≤ h0.size) (f1 : S_0 Z h0 (.long 536870923)) (f2 : ((p0 &&& (9223372036854775807 : Int64)) % (536870923 : Int64)) = jr0) (f3 : ((p1 &&& (9223372036854775807 : Int64)) % (536870923 : Int64)) = jr1) (f4 : ((p2 &&& (9223372036854775807 : Int64)) % (536870923 : Int64)) = jr2) (f5 : ((p3 &&& (9223372036854775807 : Int64)) % (536870923 : Int64)) = jr3) (f6 : ((p4 &&& (9223372036854775807 : Int64)) % (536870923 : Int64)) = jr4) (f7 : (lcmpW jr4 (0 : Int64)) = (0 : Int32)) (f8 : ((jr4 * jr2) % (536870923 : Int64)) = jt0) (f9 : (jr0 - jt0) = jd0) (f10 : ¬ ((lcmpW jd0 (0 : Int64)) < (0 : Int32))) (f11 : (lcmpW jr0 jd0) = (0 : Int32)) (f12 : ((jr4 * jr3) % (536870923 : Int64)) = jt1) (f13 : (jr1 - jt1) = jd1) (f14 : ¬ ((lcmpW jd1 (0 : Int64)) < (0 : Int32))) (f15 : (lcmpW jr1 jd1) = (0 : Int32)) (f16 : (lcmpW jr2 jr2) = (0 : Int32)) (f17 : (lcmpW jr3 jr3) = (0 : Int32)) :
    MetFree l x (head1 (Jvm.Cond.code x code maxLocals ret :: ws) room_1) (fun a U => a = #[(.long p0), (.long p1), (.long p2), (.long p3), (.long p4)] ∧ Z.Warmed39 U.vm ∧ U.heap = h0) (fun _ _ _ _ _ => True) (fun _ U o U' => ∃ v L, o = .returned v ∧ QT n0 v U'.heap L ∧ FrameEnd U o U' L room_1.cells room_1.slots) := by
  refine MetFree.of_bodySF (plainFor_of_name pn_com_example_subsumption_subsumption_SquareSystemSubtractTimesPinLaw) hisR ?_
  intro p e s m args below meth c s₁ Bd hml0 hP hK
  obtain ⟨rfl, hZ, hh⟩ := hP
  have hx := Bd.exec
  have hby := Bd.bytes
  have hml : c.maxLocals = 24 := hml0
  have hown : s.vm.findClass "com/example/subsumption/subsumption/SquareSystemSubtractTimesPinLaw" = some m.cls := findClass_of_methodNamed Bd.named
  have hnm := (name_of_methodNamed Bd.named Bd.method).1
  have X0 : Stand p l e room_1 s m #[(.long p0), (.long p1), (.long p2), (.long p3), (.long p4)] below meth c s₁ [] 0 0 := Stand.of_body Bd
  have e0 : s₁.heap = h0 := by rw [← hh, Bd.state]; rfl
  have N0 := Fr.nil n0
  obtain ⟨T1, X1, e1, st1⟩ := getS2 X0 hx hZ hown (host := "") (Or.inl (tw_0 hw)) Via.refl e0 f1 (g := (mkF m 0 #[.val (.long p0), .second, .val (.long p1), .second, .val (.long p2), .second, .val (.long p3), .second, .val (.long p4), .second, .unset, .unset, .unset, .unset, .unset, .unset, .unset, .unset, .unset, .unset, .unset, .unset, .unset, .unset] [])) rfl (hb hby at_0)
  obtain ⟨T2, h2, k2, X2, e2, E2, A2, st2⟩ := newP X1 hx hZ (aty := .long) (tw_4 hw) e1 (g := (mkF m 59 #[.val (.long p0), .second, .val (.long p1), .second, .val (.long p2), .second, .val (.long p3), .second, .val (.long p4), .second, .val (.long 536870923), .second, .val (.long jr0), .second, .val (.long jr1), .second, .val (.long jr2), .second, .val (.long jr3), .second, .val (.long jr4), .second, .unset, .unset] [(.int 2)])) rfl (hb hby at_59) rfl (by decide : ¬ ((2 : Int32) < (0 : Int32))) (cap := 2) (by decide : (2 : Int32).toNatClampNeg ≤ 2) (by decide) (by decide) (by decide)
  obtain ⟨b1, g2⟩ : ∃ z, z = h0.size := ⟨_, rfl⟩
  rw [← g2] at A2 st2
  obtain ⟨kc2, gk2⟩ : ∃ z, z = k2 := ⟨_, rfl⟩
  rw [← gk2] at A2
  have sz_b1 : h0.size ≤ b1 := Nat.le_trans (Nat.le_refl _) (Nat.le_of_eq g2.symm)
  have g_b1 : n0 ≤ b1 := Nat.le_trans Z0 sz_b1
  have KK2 : Keep h0 h2 [] := (Keep.refl h0 []).ext E2
  have V2 : Arv Z h2 b1 kc2 .long (2 : Int32) [(.long 0), (.long 0)] (.long 0) := (Arv.new A2 (by decide)).pad (pad_rep [] (.long 0) 2)
  have va3 := V2
  obtain ⟨cl3, Ar3, q3, S3, N3_, H3, G3⟩ := va3
  have hin3 : ¬ ((0 : Int32) < 0 ∨ cl3.slots.size ≤ ((0 : Int32)).toNatClampNeg) := inb_of S3 ⟨by decide, by decide⟩
  obtain ⟨T4, h4, X4, e4, W4, st4⟩ := stJ X2 hx hZ e2 Ar3 (j := (0 : Int32)) hin3 (g := (mkF m 68 #[.val (.long p0), .second, .val (.long p1), .second, .val (.long p2), .second, .val (.long p3), .second, .val (.long p4), .second, .val (.long 536870923), .second, .val (.long jr0), .second, .val (.long jr1), .second, .val (.long jr2), .second, .val (.long jr3), .second, .val (.long jr4), .second, .val (.ref b1), .unset] [(.long jr0), (.int 0), (.ref b1)])) rfl rfl (hb hby at_68)
  have Vw4 : Arv Z h4 b1 kc2 .long (2 : Int32) [(.long jr0), (.long 0)] (.long 0) := Arv.set Ar3 q3 S3 N3_ H3 G3 rfl W4 0 rfl (Nat.le_of_ble_eq_true rfl)
  have KK4 : Keep h0 h4 [] := KK2.wr W4 (Or.inr sz_b1)
  have N4 := Fr.snoc X4 N0 g_b1
  have va5 := Vw4
  obtain ⟨cl5, Ar5, q5, S5, N5_, H5, G5⟩ := va5
  have hin5 : ¬ ((1 : Int32) < 0 ∨ cl5.slots.size ≤ ((1 : Int32)).toNatClampNeg) := inb_of S5 ⟨by decide, by decide⟩
  obtain ⟨T6, h6, X6, e6, W6, st6⟩ := stJ X4 hx hZ e4 Ar5 (j := (1 : Int32)) hin5 (g := (mkF m 74 #[.val (.long p0), .second, .val (.long p1), .second, .val (.long p2), .second, .val (.long p3), .second, .val (.long p4), .second, .val (.long 536870923), .second, .val (.long jr0), .second, .val (.long jr1), .second, .val (.long jr2), .second, .val (.long jr3), .second, .val (.long jr4), .second, .val (.ref b1), .unset] [(.long jr1), (.int 1), (.ref b1)])) rfl rfl (hb hby at_74)
  have Vw6 : Arv Z h6 b1 kc2 .long (2 : Int32) [(.long jr0), (.long jr1)] (.long 0) := Arv.set Ar5 q5 S5 N5_ H5 G5 rfl W6 1 rfl (Nat.le_of_ble_eq_true rfl)
  have KK6 : Keep h0 h6 [] := KK4.wr W6 (Or.inr sz_b1)
  have N6 := Fr.snoc X6 N4 g_b1
  obtain ⟨T7, h7, k7, X7, e7, E7, A7, st7⟩ := newP X6 hx hZ (aty := .long) (tw_4 hw) e6 (g := (mkF m 76 #[.val (.long p0), .second, .val (.long p1), .second, .val (.long p2), .second, .val (.long p3), .second, .val (.long p4), .second, .val (.long 536870923), .second, .val (.long jr0), .second, .val (.long jr1), .second, .val (.long jr2), .second, .val (.long jr3), .second, .val (.long jr4), .second, .val (.ref b1), .unset] [(.int 2)])) rfl (hb hby at_76) rfl (by decide : ¬ ((2 : Int32) < (0 : Int32))) (cap := 2) (by decide : (2 : Int32).toNatClampNeg ≤ 2) (by decide) (by decide) (by decide)
  obtain ⟨b3, g7⟩ : ∃ z, z = h6.size := ⟨_, rfl⟩
  rw [← g7] at A7 st7
  obtain ⟨kc4, gk7⟩ : ∃ z, z = k7 := ⟨_, rfl⟩
  rw [← gk7] at A7
  have sz_b3 : h0.size ≤ b3 := Nat.le_trans KK6.1 (Nat.le_of_eq g7.symm)
  have g_b3 : n0 ≤ b3 := Nat.le_trans Z0 sz_b3
  have KK7 : Keep h0 h7 [] := KK6.ext E7
  have V7 : Arv Z h7 b3 kc4 .long (2 : Int32) [(.long 0), (.long 0)] (.long 0) := (Arv.new A7 (by decide)).pad (pad_rep [] (.long 0) 2)
  have va8 := V7
  obtain ⟨cl8, Ar8, q8, S8, N8_, H8, G8⟩ := va8
  have hin8 : ¬ ((0 : Int32) < 0 ∨ cl8.slots.size ≤ ((0 : Int32)).toNatClampNeg) := inb_of S8 ⟨by decide, by decide⟩
  obtain ⟨T9, h9, X9, e9, W9, st9⟩ := stJ X7 hx hZ e7 Ar8 (j := (0 : Int32)) hin8 (g := (mkF m 85 #[.val (.long p0), .second, .val (.long p1), .second, .val (.long p2), .second, .val (.long p3), .second, .val (.long p4), .second, .val (.long 536870923), .second, .val (.long jr0), .second, .val (.long jr1), .second, .val (.long jr2), .second, .val (.long jr3), .second, .val (.long jr4), .second, .val (.ref b1), .val (.ref b3)] [(.long jr2), (.int 0), (.ref b3)])) rfl rfl (hb hby at_85)
  have Vw9 : Arv Z h9 b3 kc4 .long (2 : Int32) [(.long jr2), (.long 0)] (.long 0) := Arv.set Ar8 q8 S8 N8_ H8 G8 rfl W9 0 rfl (Nat.le_of_ble_eq_true rfl)
  have KK9 : Keep h0 h9 [] := KK7.wr W9 (Or.inr sz_b3)
  have N9 := Fr.snoc X9 N6 g_b3
  have va10 := Vw9
  obtain ⟨cl10, Ar10, q10, S10, N10_, H10, G10⟩ := va10
  have hin10 : ¬ ((1 : Int32) < 0 ∨ cl10.slots.size ≤ ((1 : Int32)).toNatClampNeg) := inb_of S10 ⟨by decide, by decide⟩
  obtain ⟨T11, h11, X11, e11, W11, st11⟩ := stJ X9 hx hZ e9 Ar10 (j := (1 : Int32)) hin10 (g := (mkF m 91 #[.val (.long p0), .second, .val (.long p1), .second, .val (.long p2), .second, .val (.long p3), .second, .val (.long p4), .second, .val (.long 536870923), .second, .val (.long jr0), .second, .val (.long jr1), .second, .val (.long jr2), .second, .val (.long jr3), .second, .val (.long jr4), .second, .val (.ref b1), .val (.ref b3)] [(.long jr3), (.int 1), (.ref b3)])) rfl rfl (hb hby at_91)
  have Vw11 : Arv Z h11 b3 kc4 .long (2 : Int32) [(.long jr2), (.long jr3)] (.long 0) := Arv.set Ar10 q10 S10 N10_ H10 G10 rfl W11 1 rfl (Nat.le_of_ble_eq_true rfl)
  have KK11 : Keep h0 h11 [] := KK9.wr W11 (Or.inr sz_b3)
  have N11 := Fr.snoc X11 N9 g_b3
  -- pc 98: com/example/subsumption/subsumption/SquareSystem.subtractTimes
  obtain ⟨_, _, ⟨T12, L12, k12, n12⟩, -, X12, ⟨Lc12, hQ12, l12, y12, z12⟩, st12⟩ := Jvm.LawKit.callS X11 hx (y := M_0) hown (mvT hZ (tw_5 hw)) (mvT hZ (tw_6 hw)) (mvT hZ (tw_1 hw)) (mvT hZ (tw_7 hw)) (by decide) (backOf (W := 0) (rm1_5 l Z a0 hw [] b1 jr4 b3 h11 n0 (Nat.le_trans Z0 KK11.1) f7) hZ (tw_7 hw) (tw_1 hw) (by decide) (by decide)) (g := (mkF m 98 #[.val (.long p0), .second, .val (.long p1), .second, .val (.long p2), .second, .val (.long p3), .second, .val (.long p4), .second, .val (.long 536870923), .second, .val (.long jr0), .second, .val (.long jr1), .second, .val (.long jr2), .second, .val (.long jr3), .second, .val (.long jr4), .second, .val (.ref b1), .val (.ref b3)] [(.ref b3), (.long jr4), (.ref b1)])) rfl (by rw [hml]; rfl) (argsL := [(.ref b1), (.long jr4), (.ref b3)]) (rest := []) (lenOf pd_0 rfl) rfl (by show 2 * 0 + _ ≤ _; exact Nat.le_of_eq rfl) (hb hby at_98) (fun _ _ => ⟨rfl, e11, (by decide : 2 + 0 ≤ _), (by decide : 4 + 0 ≤ _)⟩)
  dsimp only [Pt.U, Pt.locs, Pt.cells, Pt.slots] at X12 l12 y12 z12 st12 hQ12
  subst l12 y12 z12
  obtain ⟨rfl, Nq12, e12⟩ := hQ12
  have N12 := Fr.app N11 Nq12
  have u13 : Arv Z h7 b1 kc2 .long (2 : Int32) [(.long jr0), (.long jr1)] (.long 0) := Arv.ext Vw6 E7
  have ne14 : b1 ≠ b3 := Nat.ne_of_lt (Nat.lt_of_lt_of_le (Arv.lt Vw6) (Nat.le_of_eq g7.symm))
  have u15 : Arv Z h9 b1 kc2 .long (2 : Int32) [(.long jr0), (.long jr1)] (.long 0) := Arv.other u13 W9 ne14
  have u16 : Arv Z h11 b1 kc2 .long (2 : Int32) [(.long jr0), (.long jr1)] (.long 0) := Arv.other u15 W11 ne14
  have va17 := u16
  obtain ⟨cl17, Ar17, -, S17, N17_, -, -⟩ := va17
  have va18 := u16
  obtain ⟨cl18, Ar18, -, S18, -, H18, -⟩ := va18
  have hin18 : ¬ ((0 : Int32) < 0 ∨ cl18.slots.size ≤ ((0 : Int32)).toNatClampNeg) := inb_of S18 ⟨by decide, by decide⟩
  have hat18 : cl18.slots[((0 : Int32)).toNatClampNeg]? = some (.long jr0) := H18 _ (Nat.lt_of_not_le fun y => hin18 (Or.inr y))
  -- pc 120: com/example/subsumption/subsumption/SquareSystemSubtractTimesPinLaw.expected
  obtain ⟨_, _, ⟨T19, L19, k19, n19⟩, -, X19, ⟨Lc19, hQ19, l19, y19, z19⟩, st19⟩ := Jvm.LawKit.callS X12 hx (y := M_1) hown (mvT hZ (tw_8 hw)) (mvT hZ (tw_9 hw)) (mvT hZ (tw_10 hw)) (mvT hZ (tw_11 hw)) (by decide) (backOf (W := 2) (rm2_6 l Z a0 hw [] jr0 jr4 jr2 jt0 jd0 h11 n0 (Nat.le_trans Z0 KK11.1) f8 f9 f10) hZ (tw_11 hw) (tw_10 hw) (by decide) (by decide)) (g := (mkF m 120 #[.val (.long p0), .second, .val (.long p1), .second, .val (.long p2), .second, .val (.long p3), .second, .val (.long p4), .second, .val (.long 536870923), .second, .val (.long jr0), .second, .val (.long jr1), .second, .val (.long jr2), .second, .val (.long jr3), .second, .val (.long jr4), .second, .val (.ref b1), .val (.ref b3)] [(.long 536870923), (.long jr2), (.long jr4), (.long jr0), (.long jr0)])) rfl (by rw [hml]; rfl) (argsL := [(.long jr0), (.long jr4), (.long jr2), (.long 536870923)]) (rest := [(.long jr0)]) (lenOf pd_1 rfl) rfl (by show 2 * 0 + _ ≤ _; exact Nat.le_of_eq rfl) (hb hby at_120) (fun _ _ => ⟨rfl, e12, (by decide : 2 + 0 ≤ _), (by decide : 4 + 0 ≤ _)⟩)
  dsimp only [Pt.U, Pt.locs, Pt.cells, Pt.slots] at X19 l19 y19 z19 st19 hQ19
  subst l19 y19 z19
  obtain ⟨rfl, Nq19, e19⟩ := hQ19
  have N19 := Fr.app N12 Nq19
  have va20 := u16
  obtain ⟨cl20, Ar20, -, S20, -, H20, -⟩ := va20
  have hin20 : ¬ ((1 : Int32) < 0 ∨ cl20.slots.size ≤ ((1 : Int32)).toNatClampNeg) := inb_of S20 ⟨by decide, by decide⟩
  have hat20 : cl20.slots[((1 : Int32)).toNatClampNeg]? = some (.long jr1) := H20 _ (Nat.lt_of_not_le fun y => hin20 (Or.inr y))
  -- pc 139: com/example/subsumption/subsumption/SquareSystemSubtractTimesPinLaw.expected
  obtain ⟨_, _, ⟨T21, L21, k21, n21⟩, -, X21, ⟨Lc21, hQ21, l21, y21, z21⟩, st21⟩ := Jvm.LawKit.callS X19 hx (y := M_1) hown (mvT hZ (tw_8 hw)) (mvT hZ (tw_9 hw)) (mvT hZ (tw_10 hw)) (mvT hZ (tw_11 hw)) (by decide) (backOf (W := 2) (rm2_7 l Z a0 hw [] jr1 jr4 jr3 jt1 jd1 h11 n0 (Nat.le_trans Z0 KK11.1) f12 f13 f14) hZ (tw_11 hw) (tw_10 hw) (by decide) (by decide)) (g := (mkF m 139 #[.val (.long p0), .second, .val (.long p1), .second, .val (.long p2), .second, .val (.long p3), .second, .val (.long p4), .second, .val (.long 536870923), .second, .val (.long jr0), .second, .val (.long jr1), .second, .val (.long jr2), .second, .val (.long jr3), .second, .val (.long jr4), .second, .val (.ref b1), .val (.ref b3)] [(.long 536870923), (.long jr3), (.long jr4), (.long jr1), (.long jr1)])) rfl (by rw [hml]; rfl) (argsL := [(.long jr1), (.long jr4), (.long jr3), (.long 536870923)]) (rest := [(.long jr1)]) (lenOf pd_1 rfl) rfl (by show 2 * 0 + _ ≤ _; exact Nat.le_of_eq rfl) (hb hby at_139) (fun _ _ => ⟨rfl, e19, (by decide : 2 + 0 ≤ _), (by decide : 4 + 0 ≤ _)⟩)
  dsimp only [Pt.U, Pt.locs, Pt.cells, Pt.slots] at X21 l21 y21 z21 st21 hQ21
  subst l21 y21 z21
  obtain ⟨rfl, Nq21, e21⟩ := hQ21
  have N21 := Fr.app N19 Nq21
  have va22 := Vw11
  obtain ⟨cl22, Ar22, -, S22, -, H22, -⟩ := va22
  have hin22 : ¬ ((0 : Int32) < 0 ∨ cl22.slots.size ≤ ((0 : Int32)).toNatClampNeg) := inb_of S22 ⟨by decide, by decide⟩
  have hat22 : cl22.slots[((0 : Int32)).toNatClampNeg]? = some (.long jr2) := H22 _ (Nat.lt_of_not_le fun y => hin22 (Or.inr y))
  have va23 := Vw11
  obtain ⟨cl23, Ar23, -, S23, -, H23, -⟩ := va23
  have hin23 : ¬ ((1 : Int32) < 0 ∨ cl23.slots.size ≤ ((1 : Int32)).toNatClampNeg) := inb_of S23 ⟨by decide, by decide⟩
  have hat23 : cl23.slots[((1 : Int32)).toNatClampNeg]? = some (.long jr3) := H23 _ (Nat.lt_of_not_le fun y => hin23 (Or.inr y))
  obtain ⟨fs, hr, hrun, hended, hW, hsame⟩ := X21.leave (v := (some (.int 1))) (fun h => by rw [Bd.returns] at h; cases h)
  refine ⟨_, _, castTop (ef0_JJJJJ m p0 p1 p2 p3 p4) ?_, hrun, hended, _, _, rfl, ?_, ⟨_, rfl⟩, hW, hsame.mono (by decide) (by decide)⟩
  · show Steps p.tables e below (s₁.setTop (mkF m 0 #[.val (.long p0), .second, .val (.long p1), .second, .val (.long p2), .second, .val (.long p3), .second, .val (.long p4), .second, .unset, .unset, .unset, .unset, .unset, .unset, .unset, .unset, .unset, .unset, .unset, .unset, .unset, .unset] [])) _
    refine st1 _ ?_
    refine XS.lstore X1.here hx rfl (hb hby at_3) rfl (l' := #[.val (.long p0), .second, .val (.long p1), .second, .val (.long p2), .second, .val (.long p3), .second, .val (.long p4), .second, .val (.long 536870923), .second, .unset, .unset, .unset, .unset, .unset, .unset, .unset, .unset, .unset, .unset, .unset, .unset]) rfl ?_
    refine XS.lloadN X1.here hx rfl (hb hby at_5) rfl ?_
    show Steps p.tables e below (T1.setTop (mkF m 6 #[.val (.long p0), .second, .val (.long p1), .second, .val (.long p2), .second, .val (.long p3), .second, .val (.long p4), .second, .val (.long 536870923), .second, .unset, .unset, .unset, .unset, .unset, .unset, .unset, .unset, .unset, .unset, .unset, .unset] [(.long p0)])) _
    refine X1.ldc2Long hx hown (mvT hZ (tw_3 hw)) (g := (mkF m 6 #[.val (.long p0), .second, .val (.long p1), .second, .val (.long p2), .second, .val (.long p3), .second, .val (.long p4), .second, .val (.long 536870923), .second, .unset, .unset, .unset, .unset, .unset, .unset, .unset, .unset, .unset, .unset, .unset, .unset] [(.long p0)])) rfl (hb hby at_6) _ ?_
    show Steps p.tables e below (T1.setTop (mkF m 9 #[.val (.long p0), .second, .val (.long p1), .second, .val (.long p2), .second, .val (.long p3), .second, .val (.long p4), .second, .val (.long 536870923), .second, .unset, .unset, .unset, .unset, .unset, .unset, .unset, .unset, .unset, .unset, .unset, .unset] [(.long 9223372036854775807), (.long p0)])) _
    refine XS.land X1.here hx rfl (hb hby at_9) rfl ?_
    refine XS.lload X1.here hx rfl (hb hby at_10) rfl ?_
    show Steps p.tables e below (T1.setTop (mkF m 12 #[.val (.long p0), .second, .val (.long p1), .second, .val (.long p2), .second, .val (.long p3), .second, .val (.long p4), .second, .val (.long 536870923), .second, .unset, .unset, .unset, .unset, .unset, .unset, .unset, .unset, .unset, .unset, .unset, .unset] [(.long 536870923), (.long (p0 &&& (9223372036854775807 : Int64)))])) _
    refine own_lremM X1 hx rfl (hb hby at_12) rfl (by decide) ?_
    show Steps p.tables e below (T1.setTop (mkF m 13 #[.val (.long p0), .second, .val (.long p1), .second, .val (.long p2), .second, .val (.long p3), .second, .val (.long p4), .second, .val (.long 536870923), .second, .unset, .unset, .unset, .unset, .unset, .unset, .unset, .unset, .unset, .unset, .unset, .unset] [(.long ((p0 &&& (9223372036854775807 : Int64)) % (536870923 : Int64)))])) _
    rw [f2]
    refine XS.lstore X1.here hx rfl (hb hby at_13) rfl (l' := #[.val (.long p0), .second, .val (.long p1), .second, .val (.long p2), .second, .val (.long p3), .second, .val (.long p4), .second, .val (.long 536870923), .second, .val (.long jr0), .second, .unset, .unset, .unset, .unset, .unset, .unset, .unset, .unset, .unset, .unset]) rfl ?_
    refine XS.lloadN X1.here hx rfl (hb hby at_15) rfl ?_
    show Steps p.tables e below (T1.setTop (mkF m 16 #[.val (.long p0), .second, .val (.long p1), .second, .val (.long p2), .second, .val (.long p3), .second, .val (.long p4), .second, .val (.long 536870923), .second, .val (.long jr0), .second, .unset, .unset, .unset, .unset, .unset, .unset, .unset, .unset, .unset, .unset] [(.long p1)])) _
    refine X1.ldc2Long hx hown (mvT hZ (tw_3 hw)) (g := (mkF m 16 #[.val (.long p0), .second, .val (.long p1), .second, .val (.long p2), .second, .val (.long p3), .second, .val (.long p4), .second, .val (.long 536870923), .second, .val (.long jr0), .second, .unset, .unset, .unset, .unset, .unset, .unset, .unset, .unset, .unset, .unset] [(.long p1)])) rfl (hb hby at_16) _ ?_
    show Steps p.tables e below (T1.setTop (mkF m 19 #[.val (.long p0), .second, .val (.long p1), .second, .val (.long p2), .second, .val (.long p3), .second, .val (.long p4), .second, .val (.long 536870923), .second, .val (.long jr0), .second, .unset, .unset, .unset, .unset, .unset, .unset, .unset, .unset, .unset, .unset] [(.long 9223372036854775807), (.long p1)])) _
    refine XS.land X1.here hx rfl (hb hby at_19) rfl ?_
    refine XS.lload X1.here hx rfl (hb hby at_20) rfl ?_
    show Steps p.tables e below (T1.setTop (mkF m 22 #[.val (.long p0), .second, .val (.long p1), .second, .val (.long p2), .second, .val (.long p3), .second, .val (.long p4), .second, .val (.long 536870923), .second, .val (.long jr0), .second, .unset, .unset, .unset, .unset, .unset, .unset, .unset, .unset, .unset, .unset] [(.long 536870923), (.long (p1 &&& (9223372036854775807 : Int64)))])) _
    refine own_lremM X1 hx rfl (hb hby at_22) rfl (by decide) ?_
    show Steps p.tables e below (T1.setTop (mkF m 23 #[.val (.long p0), .second, .val (.long p1), .second, .val (.long p2), .second, .val (.long p3), .second, .val (.long p4), .second, .val (.long 536870923), .second, .val (.long jr0), .second, .unset, .unset, .unset, .unset, .unset, .unset, .unset, .unset, .unset, .unset] [(.long ((p1 &&& (9223372036854775807 : Int64)) % (536870923 : Int64)))])) _
    rw [f3]
    refine XS.lstore X1.here hx rfl (hb hby at_23) rfl (l' := #[.val (.long p0), .second, .val (.long p1), .second, .val (.long p2), .second, .val (.long p3), .second, .val (.long p4), .second, .val (.long 536870923), .second, .val (.long jr0), .second, .val (.long jr1), .second, .unset, .unset, .unset, .unset, .unset, .unset, .unset, .unset]) rfl ?_
    refine XS.lload X1.here hx rfl (hb hby at_25) rfl ?_
    show Steps p.tables e below (T1.setTop (mkF m 27 #[.val (.long p0), .second, .val (.long p1), .second, .val (.long p2), .second, .val (.long p3), .second, .val (.long p4), .second, .val (.long 536870923), .second, .val (.long jr0), .second, .val (.long jr1), .second, .unset, .unset, .unset, .unset, .unset, .unset, .unset, .unset] [(.long p2)])) _
    refine X1.ldc2Long hx hown (mvT hZ (tw_3 hw)) (g := (mkF m 27 #[.val (.long p0), .second, .val (.long p1), .second, .val (.long p2), .second, .val (.long p3), .second, .val (.long p4), .second, .val (.long 536870923), .second, .val (.long jr0), .second, .val (.long jr1), .second, .unset, .unset, .unset, .unset, .unset, .unset, .unset, .unset] [(.long p2)])) rfl (hb hby at_27) _ ?_
    show Steps p.tables e below (T1.setTop (mkF m 30 #[.val (.long p0), .second, .val (.long p1), .second, .val (.long p2), .second, .val (.long p3), .second, .val (.long p4), .second, .val (.long 536870923), .second, .val (.long jr0), .second, .val (.long jr1), .second, .unset, .unset, .unset, .unset, .unset, .unset, .unset, .unset] [(.long 9223372036854775807), (.long p2)])) _
    refine XS.land X1.here hx rfl (hb hby at_30) rfl ?_
    refine XS.lload X1.here hx rfl (hb hby at_31) rfl ?_
    show Steps p.tables e below (T1.setTop (mkF m 33 #[.val (.long p0), .second, .val (.long p1), .second, .val (.long p2), .second, .val (.long p3), .second, .val (.long p4), .second, .val (.long 536870923), .second, .val (.long jr0), .second, .val (.long jr1), .second, .unset, .unset, .unset, .unset, .unset, .unset, .unset, .unset] [(.long 536870923), (.long (p2 &&& (9223372036854775807 : Int64)))])) _
    refine own_lremM X1 hx rfl (hb hby at_33) rfl (by decide) ?_
    show Steps p.tables e below (T1.setTop (mkF m 34 #[.val (.long p0), .second, .val (.long p1), .second, .val (.long p2), .second, .val (.long p3), .second, .val (.long p4), .second, .val (.long 536870923), .second, .val (.long jr0), .second, .val (.long jr1), .second, .unset, .unset, .unset, .unset, .unset, .unset, .unset, .unset] [(.long ((p2 &&& (9223372036854775807 : Int64)) % (536870923 : Int64)))])) _
    rw [f4]
    refine XS.lstore X1.here hx rfl (hb hby at_34) rfl (l' := #[.val (.long p0), .second, .val (.long p1), .second, .val (.long p2), .second, .val (.long p3), .second, .val (.long p4), .second, .val (.long 536870923), .second, .val (.long jr0), .second, .val (.long jr1), .second, .val (.long jr2), .second, .unset, .unset, .unset, .unset, .unset, .unset]) rfl ?_
    refine XS.lload X1.here hx rfl (hb hby at_36) rfl ?_
    show Steps p.tables e below (T1.setTop (mkF m 38 #[.val (.long p0), .second, .val (.long p1), .second, .val (.long p2), .second, .val (.long p3), .second, .val (.long p4), .second, .val (.long 536870923), .second, .val (.long jr0), .second, .val (.long jr1), .second, .val (.long jr2), .second, .unset, .unset, .unset, .unset, .unset, .unset] [(.long p3)])) _
    refine X1.ldc2Long hx hown (mvT hZ (tw_3 hw)) (g := (mkF m 38 #[.val (.long p0), .second, .val (.long p1), .second, .val (.long p2), .second, .val (.long p3), .second, .val (.long p4), .second, .val (.long 536870923), .second, .val (.long jr0), .second, .val (.long jr1), .second, .val (.long jr2), .second, .unset, .unset, .unset, .unset, .unset, .unset] [(.long p3)])) rfl (hb hby at_38) _ ?_
    show Steps p.tables e below (T1.setTop (mkF m 41 #[.val (.long p0), .second, .val (.long p1), .second, .val (.long p2), .second, .val (.long p3), .second, .val (.long p4), .second, .val (.long 536870923), .second, .val (.long jr0), .second, .val (.long jr1), .second, .val (.long jr2), .second, .unset, .unset, .unset, .unset, .unset, .unset] [(.long 9223372036854775807), (.long p3)])) _
    refine XS.land X1.here hx rfl (hb hby at_41) rfl ?_
    refine XS.lload X1.here hx rfl (hb hby at_42) rfl ?_
    show Steps p.tables e below (T1.setTop (mkF m 44 #[.val (.long p0), .second, .val (.long p1), .second, .val (.long p2), .second, .val (.long p3), .second, .val (.long p4), .second, .val (.long 536870923), .second, .val (.long jr0), .second, .val (.long jr1), .second, .val (.long jr2), .second, .unset, .unset, .unset, .unset, .unset, .unset] [(.long 536870923), (.long (p3 &&& (9223372036854775807 : Int64)))])) _
    refine own_lremM X1 hx rfl (hb hby at_44) rfl (by decide) ?_
    show Steps p.tables e below (T1.setTop (mkF m 45 #[.val (.long p0), .second, .val (.long p1), .second, .val (.long p2), .second, .val (.long p3), .second, .val (.long p4), .second, .val (.long 536870923), .second, .val (.long jr0), .second, .val (.long jr1), .second, .val (.long jr2), .second, .unset, .unset, .unset, .unset, .unset, .unset] [(.long ((p3 &&& (9223372036854775807 : Int64)) % (536870923 : Int64)))])) _
    rw [f5]
    refine XS.lstore X1.here hx rfl (hb hby at_45) rfl (l' := #[.val (.long p0), .second, .val (.long p1), .second, .val (.long p2), .second, .val (.long p3), .second, .val (.long p4), .second, .val (.long 536870923), .second, .val (.long jr0), .second, .val (.long jr1), .second, .val (.long jr2), .second, .val (.long jr3), .second, .unset, .unset, .unset, .unset]) rfl ?_
    refine XS.lload X1.here hx rfl (hb hby at_47) rfl ?_
    show Steps p.tables e below (T1.setTop (mkF m 49 #[.val (.long p0), .second, .val (.long p1), .second, .val (.long p2), .second, .val (.long p3), .second, .val (.long p4), .second, .val (.long 536870923), .second, .val (.long jr0), .second, .val (.long jr1), .second, .val (.long jr2), .second, .val (.long jr3), .second, .unset, .unset, .unset, .unset] [(.long p4)])) _
    refine X1.ldc2Long hx hown (mvT hZ (tw_3 hw)) (g := (mkF m 49 #[.val (.long p0), .second, .val (.long p1), .second, .val (.long p2), .second, .val (.long p3), .second, .val (.long p4), .second, .val (.long 536870923), .second, .val (.long jr0), .second, .val (.long jr1), .second, .val (.long jr2), .second, .val (.long jr3), .second, .unset, .unset, .unset, .unset] [(.long p4)])) rfl (hb hby at_49) _ ?_
    show Steps p.tables e below (T1.setTop (mkF m 52 #[.val (.long p0), .second, .val (.long p1), .second, .val (.long p2), .second, .val (.long p3), .second, .val (.long p4), .second, .val (.long 536870923), .second, .val (.long jr0), .second, .val (.long jr1), .second, .val (.long jr2), .second, .val (.long jr3), .second, .unset, .unset, .unset, .unset] [(.long 9223372036854775807), (.long p4)])) _
    refine XS.land X1.here hx rfl (hb hby at_52) rfl ?_
    refine XS.lload X1.here hx rfl (hb hby at_53) rfl ?_
    show Steps p.tables e below (T1.setTop (mkF m 55 #[.val (.long p0), .second, .val (.long p1), .second, .val (.long p2), .second, .val (.long p3), .second, .val (.long p4), .second, .val (.long 536870923), .second, .val (.long jr0), .second, .val (.long jr1), .second, .val (.long jr2), .second, .val (.long jr3), .second, .unset, .unset, .unset, .unset] [(.long 536870923), (.long (p4 &&& (9223372036854775807 : Int64)))])) _
    refine own_lremM X1 hx rfl (hb hby at_55) rfl (by decide) ?_
    show Steps p.tables e below (T1.setTop (mkF m 56 #[.val (.long p0), .second, .val (.long p1), .second, .val (.long p2), .second, .val (.long p3), .second, .val (.long p4), .second, .val (.long 536870923), .second, .val (.long jr0), .second, .val (.long jr1), .second, .val (.long jr2), .second, .val (.long jr3), .second, .unset, .unset, .unset, .unset] [(.long ((p4 &&& (9223372036854775807 : Int64)) % (536870923 : Int64)))])) _
    rw [f6]
    refine XS.lstore X1.here hx rfl (hb hby at_56) rfl (l' := #[.val (.long p0), .second, .val (.long p1), .second, .val (.long p2), .second, .val (.long p3), .second, .val (.long p4), .second, .val (.long 536870923), .second, .val (.long jr0), .second, .val (.long jr1), .second, .val (.long jr2), .second, .val (.long jr3), .second, .val (.long jr4), .second, .unset, .unset]) rfl ?_
    refine XS.iconst X1.here hx rfl (hb hby at_58) ?_
    show Steps p.tables e below (T1.setTop (mkF m 59 #[.val (.long p0), .second, .val (.long p1), .second, .val (.long p2), .second, .val (.long p3), .second, .val (.long p4), .second, .val (.long 536870923), .second, .val (.long jr0), .second, .val (.long jr1), .second, .val (.long jr2), .second, .val (.long jr3), .second, .val (.long jr4), .second, .unset, .unset] [(.int 2)])) _
    refine st2 _ ?_
    refine XS.astore X2.here hx rfl (hb hby at_61) rfl rfl (l' := #[.val (.long p0), .second, .val (.long p1), .second, .val (.long p2), .second, .val (.long p3), .second, .val (.long p4), .second, .val (.long 536870923), .second, .val (.long jr0), .second, .val (.long jr1), .second, .val (.long jr2), .second, .val (.long jr3), .second, .val (.long jr4), .second, .val (.ref b1), .unset]) rfl ?_
    refine XS.aload X2.here hx rfl (hb hby at_63) rfl rfl ?_
    refine XS.iconst X2.here hx rfl (hb hby at_65) ?_
    refine XS.lload X2.here hx rfl (hb hby at_66) rfl ?_
    show Steps p.tables e below (T2.setTop (mkF m 68 #[.val (.long p0), .second, .val (.long p1), .second, .val (.long p2), .second, .val (.long p3), .second, .val (.long p4), .second, .val (.long 536870923), .second, .val (.long jr0), .second, .val (.long jr1), .second, .val (.long jr2), .second, .val (.long jr3), .second, .val (.long jr4), .second, .val (.ref b1), .unset] [(.long jr0), (.int 0), (.ref b1)])) _
    refine st4 _ ?_
    refine XS.aload X4.here hx rfl (hb hby at_69) rfl rfl ?_
    refine XS.iconst X4.here hx rfl (hb hby at_71) ?_
    refine XS.lload X4.here hx rfl (hb hby at_72) rfl ?_
    show Steps p.tables e below (T4.setTop (mkF m 74 #[.val (.long p0), .second, .val (.long p1), .second, .val (.long p2), .second, .val (.long p3), .second, .val (.long p4), .second, .val (.long 536870923), .second, .val (.long jr0), .second, .val (.long jr1), .second, .val (.long jr2), .second, .val (.long jr3), .second, .val (.long jr4), .second, .val (.ref b1), .unset] [(.long jr1), (.int 1), (.ref b1)])) _
    refine st6 _ ?_
    refine XS.iconst X6.here hx rfl (hb hby at_75) ?_
    show Steps p.tables e below (T6.setTop (mkF m 76 #[.val (.long p0), .second, .val (.long p1), .second, .val (.long p2), .second, .val (.long p3), .second, .val (.long p4), .second, .val (.long 536870923), .second, .val (.long jr0), .second, .val (.long jr1), .second, .val (.long jr2), .second, .val (.long jr3), .second, .val (.long jr4), .second, .val (.ref b1), .unset] [(.int 2)])) _
    refine st7 _ ?_
    refine XS.astore X7.here hx rfl (hb hby at_78) rfl rfl (l' := #[.val (.long p0), .second, .val (.long p1), .second, .val (.long p2), .second, .val (.long p3), .second, .val (.long p4), .second, .val (.long 536870923), .second, .val (.long jr0), .second, .val (.long jr1), .second, .val (.long jr2), .second, .val (.long jr3), .second, .val (.long jr4), .second, .val (.ref b1), .val (.ref b3)]) rfl ?_
    refine XS.aload X7.here hx rfl (hb hby at_80) rfl rfl ?_
    refine XS.iconst X7.here hx rfl (hb hby at_82) ?_
    refine XS.lload X7.here hx rfl (hb hby at_83) rfl ?_
    show Steps p.tables e below (T7.setTop (mkF m 85 #[.val (.long p0), .second, .val (.long p1), .second, .val (.long p2), .second, .val (.long p3), .second, .val (.long p4), .second, .val (.long 536870923), .second, .val (.long jr0), .second, .val (.long jr1), .second, .val (.long jr2), .second, .val (.long jr3), .second, .val (.long jr4), .second, .val (.ref b1), .val (.ref b3)] [(.long jr2), (.int 0), (.ref b3)])) _
    refine st9 _ ?_
    refine XS.aload X9.here hx rfl (hb hby at_86) rfl rfl ?_
    refine XS.iconst X9.here hx rfl (hb hby at_88) ?_
    refine XS.lload X9.here hx rfl (hb hby at_89) rfl ?_
    show Steps p.tables e below (T9.setTop (mkF m 91 #[.val (.long p0), .second, .val (.long p1), .second, .val (.long p2), .second, .val (.long p3), .second, .val (.long p4), .second, .val (.long 536870923), .second, .val (.long jr0), .second, .val (.long jr1), .second, .val (.long jr2), .second, .val (.long jr3), .second, .val (.long jr4), .second, .val (.ref b1), .val (.ref b3)] [(.long jr3), (.int 1), (.ref b3)])) _
    refine st11 _ ?_
    refine XS.aload X11.here hx rfl (hb hby at_92) rfl rfl ?_
    refine XS.lload X11.here hx rfl (hb hby at_94) rfl ?_
    refine XS.aload X11.here hx rfl (hb hby at_96) rfl rfl ?_
    show Steps p.tables e below (T11.setTop (mkF m 98 #[.val (.long p0), .second, .val (.long p1), .second, .val (.long p2), .second, .val (.long p3), .second, .val (.long p4), .second, .val (.long 536870923), .second, .val (.long jr0), .second, .val (.long jr1), .second, .val (.long jr2), .second, .val (.long jr3), .second, .val (.long jr4), .second, .val (.ref b1), .val (.ref b3)] [(.ref b3), (.long jr4), (.ref b1)])) _
    refine st12 _ ?_
    refine XS.aload X12.here hx rfl (hb hby at_101) rfl rfl ?_
    show Steps p.tables e below (T12.setTop (mkF m 103 #[.val (.long p0), .second, .val (.long p1), .second, .val (.long p2), .second, .val (.long p3), .second, .val (.long p4), .second, .val (.long 536870923), .second, .val (.long jr0), .second, .val (.long jr1), .second, .val (.long jr2), .second, .val (.long jr3), .second, .val (.long jr4), .second, .val (.ref b1), .val (.ref b3)] [(.ref b1)])) _
    refine X12.arraylength hx (by rw [e12]; exact Ar17.1) (State.isArrayOf_alike hZ.alike Ar17.2.1) (g := (mkF m 103 #[.val (.long p0), .second, .val (.long p1), .second, .val (.long p2), .second, .val (.long p3), .second, .val (.long p4), .second, .val (.long 536870923), .second, .val (.long jr0), .second, .val (.long jr1), .second, .val (.long jr2), .second, .val (.long jr3), .second, .val (.long jr4), .second, .val (.ref b1), .val (.ref b3)] [(.ref b1)])) rfl rfl (hb hby at_103) _ ?_
    rw [len_of S17 N17_]
    refine XS.iconst X12.here hx rfl (hb hby at_104) ?_
    refine XS.icmpNo X12.here hx rfl (hb hby at_105) rfl (by decide) ?_
    refine XS.aload X12.here hx rfl (hb hby at_108) rfl rfl ?_
    refine XS.iconst X12.here hx rfl (hb hby at_110) ?_
    show Steps p.tables e below (T12.setTop (mkF m 111 #[.val (.long p0), .second, .val (.long p1), .second, .val (.long p2), .second, .val (.long p3), .second, .val (.long p4), .second, .val (.long 536870923), .second, .val (.long jr0), .second, .val (.long jr1), .second, .val (.long jr2), .second, .val (.long jr3), .second, .val (.long jr4), .second, .val (.ref b1), .val (.ref b3)] [(.int 0), (.ref b1)])) _
    refine X12.laload hx (j := (0 : Int32)) (v := (.long jr0)) (by rw [e12]; exact Ar18.1) (State.isArrayOf_alike hZ.alike Ar18.2.1) Ar18.2.2 hin18 hat18 (g := (mkF m 111 #[.val (.long p0), .second, .val (.long p1), .second, .val (.long p2), .second, .val (.long p3), .second, .val (.long p4), .second, .val (.long 536870923), .second, .val (.long jr0), .second, .val (.long jr1), .second, .val (.long jr2), .second, .val (.long jr3), .second, .val (.long jr4), .second, .val (.ref b1), .val (.ref b3)] [(.int 0), (.ref b1)])) rfl rfl (hb hby at_111) _ ?_
    refine XS.lload X12.here hx rfl (hb hby at_112) rfl ?_
    refine XS.lload X12.here hx rfl (hb hby at_114) rfl ?_
    refine XS.lload X12.here hx rfl (hb hby at_116) rfl ?_
    refine XS.lload X12.here hx rfl (hb hby at_118) rfl ?_
    show Steps p.tables e below (T12.setTop (mkF m 120 #[.val (.long p0), .second, .val (.long p1), .second, .val (.long p2), .second, .val (.long p3), .second, .val (.long p4), .second, .val (.long 536870923), .second, .val (.long jr0), .second, .val (.long jr1), .second, .val (.long jr2), .second, .val (.long jr3), .second, .val (.long jr4), .second, .val (.ref b1), .val (.ref b3)] [(.long 536870923), (.long jr2), (.long jr4), (.long jr0), (.long jr0)])) _
    refine st19 _ ?_
    show Steps p.tables e below (T19.setTop (mkF m 123 #[.val (.long p0), .second, .val (.long p1), .second, .val (.long p2), .second, .val (.long p3), .second, .val (.long p4), .second, .val (.long 536870923), .second, .val (.long jr0), .second, .val (.long jr1), .second, .val (.long jr2), .second, .val (.long jr3), .second, .val (.long jr4), .second, .val (.ref b1), .val (.ref b3)] [(.long jd0), (.long jr0)])) _
    refine XS.lcmp X19.here hx rfl (hb hby at_123) rfl ?_
    refine XS.ifNo X19.here hx rfl (hb hby at_124) rfl ((if0 _ _).trans (teq (f11 : (lcmpW jr0 jd0) = (0 : Int32))).2) ?_
    refine XS.aload X19.here hx rfl (hb hby at_127) rfl rfl ?_
    refine XS.iconst X19.here hx rfl (hb hby at_129) ?_
    show Steps p.tables e below (T19.setTop (mkF m 130 #[.val (.long p0), .second, .val (.long p1), .second, .val (.long p2), .second, .val (.long p3), .second, .val (.long p4), .second, .val (.long 536870923), .second, .val (.long jr0), .second, .val (.long jr1), .second, .val (.long jr2), .second, .val (.long jr3), .second, .val (.long jr4), .second, .val (.ref b1), .val (.ref b3)] [(.int 1), (.ref b1)])) _
    refine X19.laload hx (j := (1 : Int32)) (v := (.long jr1)) (by rw [e19]; exact Ar20.1) (State.isArrayOf_alike hZ.alike Ar20.2.1) Ar20.2.2 hin20 hat20 (g := (mkF m 130 #[.val (.long p0), .second, .val (.long p1), .second, .val (.long p2), .second, .val (.long p3), .second, .val (.long p4), .second, .val (.long 536870923), .second, .val (.long jr0), .second, .val (.long jr1), .second, .val (.long jr2), .second, .val (.long jr3), .second, .val (.long jr4), .second, .val (.ref b1), .val (.ref b3)] [(.int 1), (.ref b1)])) rfl rfl (hb hby at_130) _ ?_
    refine XS.lload X19.here hx rfl (hb hby at_131) rfl ?_
    refine XS.lload X19.here hx rfl (hb hby at_133) rfl ?_
    refine XS.lload X19.here hx rfl (hb hby at_135) rfl ?_
    refine XS.lload X19.here hx rfl (hb hby at_137) rfl ?_
    show Steps p.tables e below (T19.setTop (mkF m 139 #[.val (.long p0), .second, .val (.long p1), .second, .val (.long p2), .second, .val (.long p3), .second, .val (.long p4), .second, .val (.long 536870923), .second, .val (.long jr0), .second, .val (.long jr1), .second, .val (.long jr2), .second, .val (.long jr3), .second, .val (.long jr4), .second, .val (.ref b1), .val (.ref b3)] [(.long 536870923), (.long jr3), (.long jr4), (.long jr1), (.long jr1)])) _
    refine st21 _ ?_
    show Steps p.tables e below (T21.setTop (mkF m 142 #[.val (.long p0), .second, .val (.long p1), .second, .val (.long p2), .second, .val (.long p3), .second, .val (.long p4), .second, .val (.long 536870923), .second, .val (.long jr0), .second, .val (.long jr1), .second, .val (.long jr2), .second, .val (.long jr3), .second, .val (.long jr4), .second, .val (.ref b1), .val (.ref b3)] [(.long jd1), (.long jr1)])) _
    refine XS.lcmp X21.here hx rfl (hb hby at_142) rfl ?_
    refine XS.ifNo X21.here hx rfl (hb hby at_143) rfl ((if0 _ _).trans (teq (f15 : (lcmpW jr1 jd1) = (0 : Int32))).2) ?_
    refine XS.aload X21.here hx rfl (hb hby at_146) rfl rfl ?_
    refine XS.iconst X21.here hx rfl (hb hby at_148) ?_
    show Steps p.tables e below (T21.setTop (mkF m 149 #[.val (.long p0), .second, .val (.long p1), .second, .val (.long p2), .second, .val (.long p3), .second, .val (.long p4), .second, .val (.long 536870923), .second, .val (.long jr0), .second, .val (.long jr1), .second, .val (.long jr2), .second, .val (.long jr3), .second, .val (.long jr4), .second, .val (.ref b1), .val (.ref b3)] [(.int 0), (.ref b3)])) _
    refine X21.laload hx (j := (0 : Int32)) (v := (.long jr2)) (by rw [e21]; exact Ar22.1) (State.isArrayOf_alike hZ.alike Ar22.2.1) Ar22.2.2 hin22 hat22 (g := (mkF m 149 #[.val (.long p0), .second, .val (.long p1), .second, .val (.long p2), .second, .val (.long p3), .second, .val (.long p4), .second, .val (.long 536870923), .second, .val (.long jr0), .second, .val (.long jr1), .second, .val (.long jr2), .second, .val (.long jr3), .second, .val (.long jr4), .second, .val (.ref b1), .val (.ref b3)] [(.int 0), (.ref b3)])) rfl rfl (hb hby at_149) _ ?_
    refine XS.lload X21.here hx rfl (hb hby at_150) rfl ?_
    show Steps p.tables e below (T21.setTop (mkF m 152 #[.val (.long p0), .second, .val (.long p1), .second, .val (.long p2), .second, .val (.long p3), .second, .val (.long p4), .second, .val (.long 536870923), .second, .val (.long jr0), .second, .val (.long jr1), .second, .val (.long jr2), .second, .val (.long jr3), .second, .val (.long jr4), .second, .val (.ref b1), .val (.ref b3)] [(.long jr2), (.long jr2)])) _
    refine XS.lcmp X21.here hx rfl (hb hby at_152) rfl ?_
    refine XS.ifNo X21.here hx rfl (hb hby at_153) rfl ((if0 _ _).trans (teq (f16 : (lcmpW jr2 jr2) = (0 : Int32))).2) ?_
    refine XS.aload X21.here hx rfl (hb hby at_156) rfl rfl ?_
    refine XS.iconst X21.here hx rfl (hb hby at_158) ?_
    show Steps p.tables e below (T21.setTop (mkF m 159 #[.val (.long p0), .second, .val (.long p1), .second, .val (.long p2), .second, .val (.long p3), .second, .val (.long p4), .second, .val (.long 536870923), .second, .val (.long jr0), .second, .val (.long jr1), .second, .val (.long jr2), .second, .val (.long jr3), .second, .val (.long jr4), .second, .val (.ref b1), .val (.ref b3)] [(.int 1), (.ref b3)])) _
    refine X21.laload hx (j := (1 : Int32)) (v := (.long jr3)) (by rw [e21]; exact Ar23.1) (State.isArrayOf_alike hZ.alike Ar23.2.1) Ar23.2.2 hin23 hat23 (g := (mkF m 159 #[.val (.long p0), .second, .val (.long p1), .second, .val (.long p2), .second, .val (.long p3), .second, .val (.long p4), .second, .val (.long 536870923), .second, .val (.long jr0), .second, .val (.long jr1), .second, .val (.long jr2), .second, .val (.long jr3), .second, .val (.long jr4), .second, .val (.ref b1), .val (.ref b3)] [(.int 1), (.ref b3)])) rfl rfl (hb hby at_159) _ ?_
    refine XS.lload X21.here hx rfl (hb hby at_160) rfl ?_
    show Steps p.tables e below (T21.setTop (mkF m 162 #[.val (.long p0), .second, .val (.long p1), .second, .val (.long p2), .second, .val (.long p3), .second, .val (.long p4), .second, .val (.long 536870923), .second, .val (.long jr0), .second, .val (.long jr1), .second, .val (.long jr2), .second, .val (.long jr3), .second, .val (.long jr4), .second, .val (.ref b1), .val (.ref b3)] [(.long jr3), (.long jr3)])) _
    refine XS.lcmp X21.here hx rfl (hb hby at_162) rfl ?_
    refine XS.ifNo X21.here hx rfl (hb hby at_163) rfl ((if0 _ _).trans (teq (f17 : (lcmpW jr3 jr3) = (0 : Int32))).2) ?_
    refine XS.iconst X21.here hx rfl (hb hby at_166) ?_
    refine XS.goto X21.here hx rfl (pc0 := 167) (pc' := 171) rfl (hb hby at_167) (by decide) (by decide) ?_
    show Steps p.tables e below (T21.setTop (mkF m 171 #[.val (.long p0), .second, .val (.long p1), .second, .val (.long p2), .second, .val (.long p3), .second, .val (.long p4), .second, .val (.long 536870923), .second, .val (.long jr0), .second, .val (.long jr1), .second, .val (.long jr2), .second, .val (.long jr3), .second, .val (.long jr4), .second, .val (.ref b1), .val (.ref b3)] [(.int 1)])) _
    exact retN X21 hx (t := .boolean) Bd.returns (by simp) (hb hby at_171) hr
  · show QT n0 _ T21.heap _
    rw [e21]
    exact ⟨rfl, N21⟩
theorem d1_7 : decode prog_16_method_10_code 7 = .ok (.getstatic 295, 3) := by decide +kernel
theorem tw_12 {a0 : Array Value} {Z : State} (hw : ∀ d ∈ tables_1, d.before a0 Z = true) : (Jvm.Cond.fieldLink "com/example/subsumption/subsumption/SquareSystem" (295 : Nat) "com/example/subsumption/subsumption/SquareSystem" "PRIME" "J").before a0 Z = true := hw _ (List.mem_of_getElem? (i := 12) rfl)
theorem d1_10 : decode prog_16_method_10_code 10 = .ok (.lload_n 1, 1) := by decide +kernel
theorem d1_11 : decode prog_16_method_10_code 11 = .ok (.lsub, 1) := by decide +kernel
theorem d1_12 : decode prog_16_method_10_code 12 = .ok (.lstore 4, 2) := by decide +kernel
theorem d1_14 : decode prog_16_method_10_code 14 = .ok (.iconst 0, 1) := by decide +kernel
theorem d1_15 : decode prog_16_method_10_code 15 = .ok (.istore 6, 2) := by decide +kernel
theorem d1_17 : decode prog_16_method_10_code 17 = .ok (.iload 6, 2) := by decide +kernel
theorem d1_19 : decode prog_16_method_10_code 19 = .ok (.aload_n 0, 1) := by decide +kernel
theorem d1_20 : decode prog_16_method_10_code 20 = .ok (.arraylength, 1) := by decide +kernel
theorem d1_21 : decode prog_16_method_10_code 21 = .ok (.if_icmp .ge 29, 3) := by decide +kernel
theorem d1_24 : decode prog_16_method_10_code 24 = .ok (.aload_n 0, 1) := by decide +kernel
theorem d1_25 : decode prog_16_method_10_code 25 = .ok (.iload 6, 2) := by decide +kernel
theorem d1_27 : decode prog_16_method_10_code 27 = .ok (.aload_n 0, 1) := by decide +kernel
theorem d1_28 : decode prog_16_method_10_code 28 = .ok (.iload 6, 2) := by decide +kernel
theorem d1_30 : decode prog_16_method_10_code 30 = .ok (.laload, 1) := by decide +kernel
theorem d1_31 : decode prog_16_method_10_code 31 = .ok (.lload 4, 2) := by decide +kernel
theorem d1_33 : decode prog_16_method_10_code 33 = .ok (.aload_n 3, 1) := by decide +kernel
theorem d1_34 : decode prog_16_method_10_code 34 = .ok (.iload 6, 2) := by decide +kernel
theorem d1_36 : decode prog_16_method_10_code 36 = .ok (.laload, 1) := by decide +kernel
theorem d1_37 : decode prog_16_method_10_code 37 = .ok (.lmul, 1) := by decide +kernel
theorem d1_38 : decode prog_16_method_10_code 38 = .ok (.ladd, 1) := by decide +kernel
theorem d1_39 : decode prog_16_method_10_code 39 = .ok (.getstatic 295, 3) := by decide +kernel
theorem d1_42 : decode prog_16_method_10_code 42 = .ok (.lrem, 1) := by decide +kernel
theorem d1_43 : decode prog_16_method_10_code 43 = .ok (.lastore, 1) := by decide +kernel
theorem d1_44 : decode prog_16_method_10_code 44 = .ok (.iinc 6 1, 3) := by decide +kernel
theorem d1_47 : decode prog_16_method_10_code 47 = .ok (.goto (-30), 3) := by decide +kernel
theorem d1_50 : decode prog_16_method_10_code 50 = .ok (.return_, 1) := by decide +kernel
def Q1_14 (Z : State) (c0_a : Addr) (c2_k : ClassId) (jm0 : Int64) (jm1 : Int64) (h0 : Heap) (n0 : Nat) (v : Option Value) (h : Heap) (L : List Loc) : Prop := v = none ∧ Fr n0 L ∧ Keep h0 h [c0_a] ∧ Arv Z h c0_a c2_k .long (2 : Int32) [(.long jm0), (.long jm1)] (.long 0)
set_option maxRecDepth 65536 in
set_option maxHeartbeats 40000000 in
theorem rm1_13 (l : Launch) (Z : State) (a0 : Array Value) (hw : ∀ d ∈ tables_1, d.before a0 Z = true) (ws : List Jvm.Cond) (c0_a : Addr) (jr4 : Int64) (c1_a : Addr) (jnf : Int64) (c2_k : ClassId) (jr0 : Int64) (jr1 : Int64) (c3_k : ClassId) (jr2 : Int64) (jr3 : Int64) (jm0 : Int64) (jm1 : Int64) (h0 : Heap) (n0 : Nat) (Z0 : n0 ≤ h0.size) (f1 : ¬ ((lcmpW jr4 (0 : Int64)) = (0 : Int32))) (f2 : S_0 Z h0 (.long 536870923)) (f3 : ((536870923 : Int64) - jr4) = jnf) (f4 : Arv Z h0 c0_a c2_k .long (2 : Int32) [(.long jr0), (.long jr1)] (.long 0)) (f5 : Arv Z h0 c1_a c3_k .long (2 : Int32) [(.long jr2), (.long jr3)] (.long 0)) (f6 : ((jr0 + (jnf * jr2)) % (536870923 : Int64)) = jm0) (f7 : n0 ≤ c0_a) (f8 : c1_a ≠ c0_a) (f9 : ((jr1 + (jnf * jr3)) % (536870923 : Int64)) = jm1) :
    MetFree l M_0 (head1 (Jvm.Cond.code M_0 prog_16_method_10_code 7 none :: ws) R_0_0_0_0) (fun a U => a = #[(.ref c0_a), (.long jr4), (.ref c1_a)] ∧ Z.Warmed39 U.vm ∧ U.heap = h0) (fun _ _ _ _ _ => True) (fun _ U o U' => ∃ v L, o = .returned v ∧ Q1_14 Z c0_a c2_k jm0 jm1 h0 n0 v U'.heap L ∧ FrameEnd U o U' L R_0_0_0_0.cells R_0_0_0_0.slots) := by
  refine MetFree.of_bodySF (plainFor_of_name pn_com_example_subsumption_subsumption_SquareSystem) hisR ?_
  intro p e s m args below meth c s₁ Bd hml0 hP hK
  obtain ⟨rfl, hZ, hh⟩ := hP
  have hx := Bd.exec
  have hby := Bd.bytes
  have hml : c.maxLocals = 7 := hml0
  have hown : s.vm.findClass "com/example/subsumption/subsumption/SquareSystem" = some m.cls := findClass_of_methodNamed Bd.named
  have hnm := (name_of_methodNamed Bd.named Bd.method).1
  have X0 : Stand p l e R_0_0_0_0 s m #[(.ref c0_a), (.long jr4), (.ref c1_a)] below meth c s₁ [] 0 0 := Stand.of_body Bd
  have e0 : s₁.heap = h0 := by rw [← hh, Bd.state]; rfl
  have N0 := Fr.nil n0
  obtain ⟨T1, X1, e1, st1⟩ := getS2 X0 hx hZ hown (host := "") (Or.inl (tw_12 hw)) Via.refl e0 f2 (g := (mkF m 7 #[.val (.ref c0_a), .val (.long jr4), .second, .val (.ref c1_a), .unset, .unset, .unset] [])) rfl (hb hby d1_7)
  have va2 := f4
  obtain ⟨cl2, Ar2, -, S2, N2_, -, -⟩ := va2
  have va3 := f4
  obtain ⟨cl3, Ar3, -, S3, -, H3, -⟩ := va3
  have hin3 : ¬ ((0 : Int32) < 0 ∨ cl3.slots.size ≤ ((0 : Int32)).toNatClampNeg) := inb_of S3 ⟨by decide, by decide⟩
  have hat3 : cl3.slots[((0 : Int32)).toNatClampNeg]? = some (.long jr0) := H3 _ (Nat.lt_of_not_le fun y => hin3 (Or.inr y))
  have va4 := f5
  obtain ⟨cl4, Ar4, -, S4, -, H4, -⟩ := va4
  have hin4 : ¬ ((0 : Int32) < 0 ∨ cl4.slots.size ≤ ((0 : Int32)).toNatClampNeg) := inb_of S4 ⟨by decide, by decide⟩
  have hat4 : cl4.slots[((0 : Int32)).toNatClampNeg]? = some (.long jr2) := H4 _ (Nat.lt_of_not_le fun y => hin4 (Or.inr y))
  obtain ⟨T5, X5, e5, st5⟩ := getS2 X1 hx hZ hown (host := "") (Or.inl (tw_12 hw)) Via.refl e1 f2 (g := (mkF m 39 #[.val (.ref c0_a), .val (.long jr4), .second, .val (.ref c1_a), .val (.long jnf), .second, .val (.int 0)] [(.long (jr0 + (jnf * jr2))), (.int 0), (.ref c0_a)])) rfl (hb hby d1_39)
  have va6 := f4
  obtain ⟨cl6, Ar6, q6, S6, N6_, H6, G6⟩ := va6
  have hin6 : ¬ ((0 : Int32) < 0 ∨ cl6.slots.size ≤ ((0 : Int32)).toNatClampNeg) := inb_of S6 ⟨by decide, by decide⟩
  obtain ⟨T7, h7, X7, e7, W7, st7⟩ := stJ X5 hx hZ e5 Ar6 (j := (0 : Int32)) hin6 (g := (mkF m 43 #[.val (.ref c0_a), .val (.long jr4), .second, .val (.ref c1_a), .val (.long jnf), .second, .val (.int 0)] [(.long jm0), (.int 0), (.ref c0_a)])) rfl rfl (hb hby d1_43)
  have Vw7 : Arv Z h7 c0_a c2_k .long (2 : Int32) [(.long jm0), (.long jr1)] (.long 0) := Arv.set Ar6 q6 S6 N6_ H6 G6 rfl W7 0 rfl (Nat.le_of_ble_eq_true rfl)
  have KK7 : Keep h0 h7 [c0_a] := (Keep.refl h0 [c0_a]).wr W7 (Or.inl (List.mem_of_getElem? (i := 0) rfl))
  have N7 := Fr.snoc X7 N0 f7
  have va8 := Vw7
  obtain ⟨cl8, Ar8, -, S8, N8_, -, -⟩ := va8
  have va9 := Vw7
  obtain ⟨cl9, Ar9, -, S9, -, H9, -⟩ := va9
  have hin9 : ¬ ((1 : Int32) < 0 ∨ cl9.slots.size ≤ ((1 : Int32)).toNatClampNeg) := inb_of S9 ⟨by decide, by decide⟩
  have hat9 : cl9.slots[((1 : Int32)).toNatClampNeg]? = some (.long jr1) := H9 _ (Nat.lt_of_not_le fun y => hin9 (Or.inr y))
  have u10 : Arv Z h7 c1_a c3_k .long (2 : Int32) [(.long jr2), (.long jr3)] (.long 0) := Arv.other f5 W7 f8
  have va11 := u10
  obtain ⟨cl11, Ar11, -, S11, -, H11, -⟩ := va11
  have hin11 : ¬ ((1 : Int32) < 0 ∨ cl11.slots.size ≤ ((1 : Int32)).toNatClampNeg) := inb_of S11 ⟨by decide, by decide⟩
  have hat11 : cl11.slots[((1 : Int32)).toNatClampNeg]? = some (.long jr3) := H11 _ (Nat.lt_of_not_le fun y => hin11 (Or.inr y))
  have u12 : S_0 Z h7 (.long 536870923) := Sta.wr W7 f2
  obtain ⟨T13, X13, e13, st13⟩ := getS2 X7 hx hZ hown (host := "") (Or.inl (tw_12 hw)) Via.refl e7 u12 (g := (mkF m 39 #[.val (.ref c0_a), .val (.long jr4), .second, .val (.ref c1_a), .val (.long jnf), .second, .val (.int 1)] [(.long (jr1 + (jnf * jr3))), (.int 1), (.ref c0_a)])) rfl (hb hby d1_39)
  have va14 := Vw7
  obtain ⟨cl14, Ar14, q14, S14, N14_, H14, G14⟩ := va14
  have hin14 : ¬ ((1 : Int32) < 0 ∨ cl14.slots.size ≤ ((1 : Int32)).toNatClampNeg) := inb_of S14 ⟨by decide, by decide⟩
  obtain ⟨T15, h15, X15, e15, W15, st15⟩ := stJ X13 hx hZ e13 Ar14 (j := (1 : Int32)) hin14 (g := (mkF m 43 #[.val (.ref c0_a), .val (.long jr4), .second, .val (.ref c1_a), .val (.long jnf), .second, .val (.int 1)] [(.long jm1), (.int 1), (.ref c0_a)])) rfl rfl (hb hby d1_43)
  have Vw15 : Arv Z h15 c0_a c2_k .long (2 : Int32) [(.long jm0), (.long jm1)] (.long 0) := Arv.set Ar14 q14 S14 N14_ H14 G14 rfl W15 1 rfl (Nat.le_of_ble_eq_true rfl)
  have KK15 : Keep h0 h15 [c0_a] := KK7.wr W15 (Or.inl (List.mem_of_getElem? (i := 0) rfl))
  have N15 := Fr.snoc X15 N7 f7
  have va16 := Vw15
  obtain ⟨cl16, Ar16, -, S16, N16_, -, -⟩ := va16
  obtain ⟨fs, hr, hrun, hended, hW, hsame⟩ := X15.leave (v := none) (fun _ => rfl)
  refine ⟨_, _, castTop (ef1_RJR m c0_a jr4 c1_a) ?_, hrun, hended, _, _, rfl, ?_, ⟨_, rfl⟩, hW, hsame.mono (by decide) (by decide)⟩
  · show Steps p.tables e below (s₁.setTop (mkF m 0 #[.val (.ref c0_a), .val (.long jr4), .second, .val (.ref c1_a), .unset, .unset, .unset] [])) _
    refine XS.lloadN X0.here hx rfl (hb hby d1_0) rfl ?_
    refine XS.lconst X0.here hx rfl (hb hby d1_1) ?_
    show Steps p.tables e below (s₁.setTop (mkF m 2 #[.val (.ref c0_a), .val (.long jr4), .second, .val (.ref c1_a), .unset, .unset, .unset] [(.long 0), (.long jr4)])) _
    refine XS.lcmp X0.here hx rfl (hb hby d1_2) rfl ?_
    refine XS.ifYes X0.here hx rfl (pc0 := 3) (pc' := 7) rfl (hb hby d1_3) rfl ((if0 _ _).trans (feq (f1 : ¬ ((lcmpW jr4 (0 : Int64)) = (0 : Int32)))).2) (by decide) (by decide) ?_
    show Steps p.tables e below (s₁.setTop (mkF m 7 #[.val (.ref c0_a), .val (.long jr4), .second, .val (.ref c1_a), .unset, .unset, .unset] [])) _
    refine st1 _ ?_
    refine XS.lloadN X1.here hx rfl (hb hby d1_10) rfl ?_
    show Steps p.tables e below (T1.setTop (mkF m 11 #[.val (.ref c0_a), .val (.long jr4), .second, .val (.ref c1_a), .unset, .unset, .unset] [(.long jr4), (.long 536870923)])) _
    refine XS.lsub X1.here hx rfl (hb hby d1_11) rfl ?_
    show Steps p.tables e below (T1.setTop (mkF m 12 #[.val (.ref c0_a), .val (.long jr4), .second, .val (.ref c1_a), .unset, .unset, .unset] [(.long ((536870923 : Int64) - jr4))])) _
    rw [f3]
    refine XS.lstore X1.here hx rfl (hb hby d1_12) rfl (l' := #[.val (.ref c0_a), .val (.long jr4), .second, .val (.ref c1_a), .val (.long jnf), .second, .unset]) rfl ?_
    refine XS.iconst X1.here hx rfl (hb hby d1_14) ?_
    refine XS.istore X1.here hx rfl (hb hby d1_15) rfl (l' := #[.val (.ref c0_a), .val (.long jr4), .second, .val (.ref c1_a), .val (.long jnf), .second, .val (.int 0)]) rfl ?_
    refine XS.iload X1.here hx rfl (hb hby d1_17) rfl ?_
    show Steps p.tables e below (T1.setTop (mkF m 19 #[.val (.ref c0_a), .val (.long jr4), .second, .val (.ref c1_a), .val (.long jnf), .second, .val (.int 0)] [(.int 0)])) _
    refine XS.aloadN X1.here hx rfl (hb hby d1_19) rfl rfl ?_
    show Steps p.tables e below (T1.setTop (mkF m 20 #[.val (.ref c0_a), .val (.long jr4), .second, .val (.ref c1_a), .val (.long jnf), .second, .val (.int 0)] [(.ref c0_a), (.int 0)])) _
    refine X1.arraylength hx (by rw [e1]; exact Ar2.1) (State.isArrayOf_alike hZ.alike Ar2.2.1) (g := (mkF m 20 #[.val (.ref c0_a), .val (.long jr4), .second, .val (.ref c1_a), .val (.long jnf), .second, .val (.int 0)] [(.ref c0_a), (.int 0)])) rfl rfl (hb hby d1_20) _ ?_
    rw [len_of S2 N2_]
    refine XS.icmpNo X1.here hx rfl (hb hby d1_21) rfl (by decide) ?_
    refine XS.aloadN X1.here hx rfl (hb hby d1_24) rfl rfl ?_
    refine XS.iload X1.here hx rfl (hb hby d1_25) rfl ?_
    refine XS.aloadN X1.here hx rfl (hb hby d1_27) rfl rfl ?_
    show Steps p.tables e below (T1.setTop (mkF m 28 #[.val (.ref c0_a), .val (.long jr4), .second, .val (.ref c1_a), .val (.long jnf), .second, .val (.int 0)] [(.ref c0_a), (.int 0), (.ref c0_a)])) _
    refine XS.iload X1.here hx rfl (hb hby d1_28) rfl ?_
    show Steps p.tables e below (T1.setTop (mkF m 30 #[.val (.ref c0_a), .val (.long jr4), .second, .val (.ref c1_a), .val (.long jnf), .second, .val (.int 0)] [(.int 0), (.ref c0_a), (.int 0), (.ref c0_a)])) _
    refine X1.laload hx (j := (0 : Int32)) (v := (.long jr0)) (by rw [e1]; exact Ar3.1) (State.isArrayOf_alike hZ.alike Ar3.2.1) Ar3.2.2 hin3 hat3 (g := (mkF m 30 #[.val (.ref c0_a), .val (.long jr4), .second, .val (.ref c1_a), .val (.long jnf), .second, .val (.int 0)] [(.int 0), (.ref c0_a), (.int 0), (.ref c0_a)])) rfl rfl (hb hby d1_30) _ ?_
    refine XS.lload X1.here hx rfl (hb hby d1_31) rfl ?_
    refine XS.aloadN X1.here hx rfl (hb hby d1_33) rfl rfl ?_
    refine XS.iload X1.here hx rfl (hb hby d1_34) rfl ?_
    show Steps p.tables e below (T1.setTop (mkF m 36 #[.val (.ref c0_a), .val (.long jr4), .second, .val (.ref c1_a), .val (.long jnf), .second, .val (.int 0)] [(.int 0), (.ref c1_a), (.long jnf), (.long jr0), (.int 0), (.ref c0_a)])) _
    refine X1.laload hx (j := (0 : Int32)) (v := (.long jr2)) (by rw [e1]; exact Ar4.1) (State.isArrayOf_alike hZ.alike Ar4.2.1) Ar4.2.2 hin4 hat4 (g := (mkF m 36 #[.val (.ref c0_a), .val (.long jr4), .second, .val (.ref c1_a), .val (.long jnf), .second, .val (.int 0)] [(.int 0), (.ref c1_a), (.long jnf), (.long jr0), (.int 0), (.ref c0_a)])) rfl rfl (hb hby d1_36) _ ?_
    show Steps p.tables e below (T1.setTop (mkF m 37 #[.val (.ref c0_a), .val (.long jr4), .second, .val (.ref c1_a), .val (.long jnf), .second, .val (.int 0)] [(.long jr2), (.long jnf), (.long jr0), (.int 0), (.ref c0_a)])) _
    refine XS.lmul X1.here hx rfl (hb hby d1_37) rfl ?_
    show Steps p.tables e below (T1.setTop (mkF m 38 #[.val (.ref c0_a), .val (.long jr4), .second, .val (.ref c1_a), .val (.long jnf), .second, .val (.int 0)] [(.long (jnf * jr2)), (.long jr0), (.int 0), (.ref c0_a)])) _
    refine XS.ladd X1.here hx rfl (hb hby d1_38) rfl ?_
    show Steps p.tables e below (T1.setTop (mkF m 39 #[.val (.ref c0_a), .val (.long jr4), .second, .val (.ref c1_a), .val (.long jnf), .second, .val (.int 0)] [(.long (jr0 + (jnf * jr2))), (.int 0), (.ref c0_a)])) _
    refine st5 _ ?_
    show Steps p.tables e below (T5.setTop (mkF m 42 #[.val (.ref c0_a), .val (.long jr4), .second, .val (.ref c1_a), .val (.long jnf), .second, .val (.int 0)] [(.long 536870923), (.long (jr0 + (jnf * jr2))), (.int 0), (.ref c0_a)])) _
    refine own_lremM X5 hx rfl (hb hby d1_42) rfl (by decide) ?_
    show Steps p.tables e below (T5.setTop (mkF m 43 #[.val (.ref c0_a), .val (.long jr4), .second, .val (.ref c1_a), .val (.long jnf), .second, .val (.int 0)] [(.long ((jr0 + (jnf * jr2)) % (536870923 : Int64))), (.int 0), (.ref c0_a)])) _
    rw [f6]
    show Steps p.tables e below (T5.setTop (mkF m 43 #[.val (.ref c0_a), .val (.long jr4), .second, .val (.ref c1_a), .val (.long jnf), .second, .val (.int 0)] [(.long jm0), (.int 0), (.ref c0_a)])) _
    refine st7 _ ?_
    show Steps p.tables e below (T7.setTop (mkF m 44 #[.val (.ref c0_a), .val (.long jr4), .second, .val (.ref c1_a), .val (.long jnf), .second, .val (.int 0)] [])) _
    refine XS.iinc X7.here hx rfl (hb hby d1_44) rfl (l' := #[.val (.ref c0_a), .val (.long jr4), .second, .val (.ref c1_a), .val (.long jnf), .second, .val (.int ((0 : Int32) + (1 : Int32)))]) rfl ?_
    show Steps p.tables e below (T7.setTop (mkF m 47 #[.val (.ref c0_a), .val (.long jr4), .second, .val (.ref c1_a), .val (.long jnf), .second, .val (.int ((0 : Int32) + (1 : Int32)))] [])) _
    rw [show ((0 : Int32) + (1 : Int32)) = (1 : Int32) from by decide]
    refine XS.goto X7.here hx rfl (pc0 := 47) (pc' := 17) rfl (hb hby d1_47) (by decide) (by decide) ?_
    refine XS.iload X7.here hx rfl (hb hby d1_17) rfl ?_
    refine XS.aloadN X7.here hx rfl (hb hby d1_19) rfl rfl ?_
    show Steps p.tables e below (T7.setTop (mkF m 20 #[.val (.ref c0_a), .val (.long jr4), .second, .val (.ref c1_a), .val (.long jnf), .second, .val (.int 1)] [(.ref c0_a), (.int 1)])) _
    refine X7.arraylength hx (by rw [e7]; exact Ar8.1) (State.isArrayOf_alike hZ.alike Ar8.2.1) (g := (mkF m 20 #[.val (.ref c0_a), .val (.long jr4), .second, .val (.ref c1_a), .val (.long jnf), .second, .val (.int 1)] [(.ref c0_a), (.int 1)])) rfl rfl (hb hby d1_20) _ ?_
    rw [len_of S8 N8_]
    refine XS.icmpNo X7.here hx rfl (hb hby d1_21) rfl (by decide) ?_
    refine XS.aloadN X7.here hx rfl (hb hby d1_24) rfl rfl ?_
    refine XS.iload X7.here hx rfl (hb hby d1_25) rfl ?_
    refine XS.aloadN X7.here hx rfl (hb hby d1_27) rfl rfl ?_
    show Steps p.tables e below (T7.setTop (mkF m 28 #[.val (.ref c0_a), .val (.long jr4), .second, .val (.ref c1_a), .val (.long jnf), .second, .val (.int 1)] [(.ref c0_a), (.int 1), (.ref c0_a)])) _
    refine XS.iload X7.here hx rfl (hb hby d1_28) rfl ?_
    show Steps p.tables e below (T7.setTop (mkF m 30 #[.val (.ref c0_a), .val (.long jr4), .second, .val (.ref c1_a), .val (.long jnf), .second, .val (.int 1)] [(.int 1), (.ref c0_a), (.int 1), (.ref c0_a)])) _
    refine X7.laload hx (j := (1 : Int32)) (v := (.long jr1)) (by rw [e7]; exact Ar9.1) (State.isArrayOf_alike hZ.alike Ar9.2.1) Ar9.2.2 hin9 hat9 (g := (mkF m 30 #[.val (.ref c0_a), .val (.long jr4), .second, .val (.ref c1_a), .val (.long jnf), .second, .val (.int 1)] [(.int 1), (.ref c0_a), (.int 1), (.ref c0_a)])) rfl rfl (hb hby d1_30) _ ?_
    refine XS.lload X7.here hx rfl (hb hby d1_31) rfl ?_
    refine XS.aloadN X7.here hx rfl (hb hby d1_33) rfl rfl ?_
    refine XS.iload X7.here hx rfl (hb hby d1_34) rfl ?_
    show Steps p.tables e below (T7.setTop (mkF m 36 #[.val (.ref c0_a), .val (.long jr4), .second, .val (.ref c1_a), .val (.long jnf), .second, .val (.int 1)] [(.int 1), (.ref c1_a), (.long jnf), (.long jr1), (.int 1), (.ref c0_a)])) _
    refine X7.laload hx (j := (1 : Int32)) (v := (.long jr3)) (by rw [e7]; exact Ar11.1) (State.isArrayOf_alike hZ.alike Ar11.2.1) Ar11.2.2 hin11 hat11 (g := (mkF m 36 #[.val (.ref c0_a), .val (.long jr4), .second, .val (.ref c1_a), .val (.long jnf), .second, .val (.int 1)] [(.int 1), (.ref c1_a), (.long jnf), (.long jr1), (.int 1), (.ref c0_a)])) rfl rfl (hb hby d1_36) _ ?_
    show Steps p.tables e below (T7.setTop (mkF m 37 #[.val (.ref c0_a), .val (.long jr4), .second, .val (.ref c1_a), .val (.long jnf), .second, .val (.int 1)] [(.long jr3), (.long jnf), (.long jr1), (.int 1), (.ref c0_a)])) _
    refine XS.lmul X7.here hx rfl (hb hby d1_37) rfl ?_
    show Steps p.tables e below (T7.setTop (mkF m 38 #[.val (.ref c0_a), .val (.long jr4), .second, .val (.ref c1_a), .val (.long jnf), .second, .val (.int 1)] [(.long (jnf * jr3)), (.long jr1), (.int 1), (.ref c0_a)])) _
    refine XS.ladd X7.here hx rfl (hb hby d1_38) rfl ?_
    show Steps p.tables e below (T7.setTop (mkF m 39 #[.val (.ref c0_a), .val (.long jr4), .second, .val (.ref c1_a), .val (.long jnf), .second, .val (.int 1)] [(.long (jr1 + (jnf * jr3))), (.int 1), (.ref c0_a)])) _
    refine st13 _ ?_
    show Steps p.tables e below (T13.setTop (mkF m 42 #[.val (.ref c0_a), .val (.long jr4), .second, .val (.ref c1_a), .val (.long jnf), .second, .val (.int 1)] [(.long 536870923), (.long (jr1 + (jnf * jr3))), (.int 1), (.ref c0_a)])) _
    refine own_lremM X13 hx rfl (hb hby d1_42) rfl (by decide) ?_
    show Steps p.tables e below (T13.setTop (mkF m 43 #[.val (.ref c0_a), .val (.long jr4), .second, .val (.ref c1_a), .val (.long jnf), .second, .val (.int 1)] [(.long ((jr1 + (jnf * jr3)) % (536870923 : Int64))), (.int 1), (.ref c0_a)])) _
    rw [f9]
    show Steps p.tables e below (T13.setTop (mkF m 43 #[.val (.ref c0_a), .val (.long jr4), .second, .val (.ref c1_a), .val (.long jnf), .second, .val (.int 1)] [(.long jm1), (.int 1), (.ref c0_a)])) _
    refine st15 _ ?_
    show Steps p.tables e below (T15.setTop (mkF m 44 #[.val (.ref c0_a), .val (.long jr4), .second, .val (.ref c1_a), .val (.long jnf), .second, .val (.int 1)] [])) _
    refine XS.iinc X15.here hx rfl (hb hby d1_44) rfl (l' := #[.val (.ref c0_a), .val (.long jr4), .second, .val (.ref c1_a), .val (.long jnf), .second, .val (.int ((1 : Int32) + (1 : Int32)))]) rfl ?_
    show Steps p.tables e below (T15.setTop (mkF m 47 #[.val (.ref c0_a), .val (.long jr4), .second, .val (.ref c1_a), .val (.long jnf), .second, .val (.int ((1 : Int32) + (1 : Int32)))] [])) _
    rw [show ((1 : Int32) + (1 : Int32)) = (2 : Int32) from by decide]
    refine XS.goto X15.here hx rfl (pc0 := 47) (pc' := 17) rfl (hb hby d1_47) (by decide) (by decide) ?_
    refine XS.iload X15.here hx rfl (hb hby d1_17) rfl ?_
    refine XS.aloadN X15.here hx rfl (hb hby d1_19) rfl rfl ?_
    show Steps p.tables e below (T15.setTop (mkF m 20 #[.val (.ref c0_a), .val (.long jr4), .second, .val (.ref c1_a), .val (.long jnf), .second, .val (.int 2)] [(.ref c0_a), (.int 2)])) _
    refine X15.arraylength hx (by rw [e15]; exact Ar16.1) (State.isArrayOf_alike hZ.alike Ar16.2.1) (g := (mkF m 20 #[.val (.ref c0_a), .val (.long jr4), .second, .val (.ref c1_a), .val (.long jnf), .second, .val (.int 2)] [(.ref c0_a), (.int 2)])) rfl rfl (hb hby d1_20) _ ?_
    rw [len_of S16 N16_]
    refine XS.icmpYes X15.here hx rfl (pc0 := 21) (pc' := 50) rfl (hb hby d1_21) rfl (by decide) (by decide) (by decide) ?_
    show Steps p.tables e below (T15.setTop (mkF m 50 #[.val (.ref c0_a), .val (.long jr4), .second, .val (.ref c1_a), .val (.long jnf), .second, .val (.int 2)] [])) _
    exact X15.returnOut hx Bd.returns (hb hby d1_50) hr
  · show Q1_14 Z c0_a c2_k jm0 jm1 h0 n0 _ T15.heap _
    rw [e15]
    exact ⟨rfl, N15, KK15, Vw15⟩
theorem d2_22 : decode method_3_code 22 = .ok (.lload 10, 2) := by decide +kernel
theorem d2_24 : decode method_3_code 24 = .ok (.lload 6, 2) := by decide +kernel
theorem d2_26 : decode method_3_code 26 = .ok (.ladd, 1) := by decide +kernel
theorem d2_27 : decode method_3_code 27 = .ok (.lstore 10, 2) := by decide +kernel
set_option maxRecDepth 65536 in
set_option maxHeartbeats 40000000 in
theorem rm2_15 (l : Launch) (Z : State) (a0 : Array Value) (hw : ∀ d ∈ tables_1, d.before a0 Z = true) (ws : List Jvm.Cond) (jr0 : Int64) (jr4 : Int64) (jr2 : Int64) (jt0 : Int64) (jd0 : Int64) (jx0 : Int64) (h0 : Heap) (n0 : Nat) (Z0 : n0 ≤ h0.size) (f1 : ((jr4 * jr2) % (536870923 : Int64)) = jt0) (f2 : (jr0 - jt0) = jd0) (f3 : (lcmpW jd0 (0 : Int64)) < (0 : Int32)) (f4 : (jd0 + (536870923 : Int64)) = jx0) :
    MetFree l M_1 (head1 (Jvm.Cond.code M_1 method_3_code 12 (some .long) :: ws) R_0_0_0_0) (fun a U => a = #[(.long jr0), (.long jr4), (.long jr2), (.long 536870923)] ∧ Z.Warmed39 U.vm ∧ U.heap = h0) (fun _ _ _ _ _ => True) (fun _ U o U' => ∃ v L, o = .returned v ∧ QP (some (.long jx0)) h0 n0 v U'.heap L ∧ FrameEnd U o U' L R_0_0_0_0.cells R_0_0_0_0.slots) := by
  refine MetFree.of_bodySF (plainFor_of_name pn_com_example_subsumption_subsumption_SquareSystemSubtractTimesPinLaw) hisR ?_
  intro p e s m args below meth c s₁ Bd hml0 hP hK
  obtain ⟨rfl, hZ, hh⟩ := hP
  have hx := Bd.exec
  have hby := Bd.bytes
  have hml : c.maxLocals = 12 := hml0
  have hown : s.vm.findClass "com/example/subsumption/subsumption/SquareSystemSubtractTimesPinLaw" = some m.cls := findClass_of_methodNamed Bd.named
  have hnm := (name_of_methodNamed Bd.named Bd.method).1
  have X0 : Stand p l e R_0_0_0_0 s m #[(.long jr0), (.long jr4), (.long jr2), (.long 536870923)] below meth c s₁ [] 0 0 := Stand.of_body Bd
  have e0 : s₁.heap = h0 := by rw [← hh, Bd.state]; rfl
  have N0 := Fr.nil n0
  obtain ⟨fs, hr, hrun, hended, hW, hsame⟩ := X0.leave (v := (some (.long jx0))) (fun h => by rw [Bd.returns] at h; cases h)
  refine ⟨_, _, castTop (ef2_JJJJ m jr0 jr4 jr2 (536870923 : Int64)) ?_, hrun, hended, _, _, rfl, ?_, ⟨_, rfl⟩, hW, hsame.mono (by decide) (by decide)⟩
  · show Steps p.tables e below (s₁.setTop (mkF m 0 #[.val (.long jr0), .second, .val (.long jr4), .second, .val (.long jr2), .second, .val (.long 536870923), .second, .unset, .unset, .unset, .unset] [])) _
    refine XS.lloadN X0.here hx rfl (hb hby d2_0) rfl ?_
    refine XS.lload X0.here hx rfl (hb hby d2_1) rfl ?_
    show Steps p.tables e below (s₁.setTop (mkF m 3 #[.val (.long jr0), .second, .val (.long jr4), .second, .val (.long jr2), .second, .val (.long 536870923), .second, .unset, .unset, .unset, .unset] [(.long jr2), (.long jr4)])) _
    refine XS.lmul X0.here hx rfl (hb hby d2_3) rfl ?_
    refine XS.lload X0.here hx rfl (hb hby d2_4) rfl ?_
    show Steps p.tables e below (s₁.setTop (mkF m 6 #[.val (.long jr0), .second, .val (.long jr4), .second, .val (.long jr2), .second, .val (.long 536870923), .second, .unset, .unset, .unset, .unset] [(.long 536870923), (.long (jr4 * jr2))])) _
    refine own_lremM X0 hx rfl (hb hby d2_6) rfl (by decide) ?_
    show Steps p.tables e below (s₁.setTop (mkF m 7 #[.val (.long jr0), .second, .val (.long jr4), .second, .val (.long jr2), .second, .val (.long 536870923), .second, .unset, .unset, .unset, .unset] [(.long ((jr4 * jr2) % (536870923 : Int64)))])) _
    rw [f1]
    refine XS.lstore X0.here hx rfl (hb hby d2_7) rfl (l' := #[.val (.long jr0), .second, .val (.long jr4), .second, .val (.long jr2), .second, .val (.long 536870923), .second, .val (.long jt0), .second, .unset, .unset]) rfl ?_
    refine XS.lloadN X0.here hx rfl (hb hby d2_9) rfl ?_
    refine XS.lload X0.here hx rfl (hb hby d2_10) rfl ?_
    show Steps p.tables e below (s₁.setTop (mkF m 12 #[.val (.long jr0), .second, .val (.long jr4), .second, .val (.long jr2), .second, .val (.long 536870923), .second, .val (.long jt0), .second, .unset, .unset] [(.long jt0), (.long jr0)])) _
    refine XS.lsub X0.here hx rfl (hb hby d2_12) rfl ?_
    show Steps p.tables e below (s₁.setTop (mkF m 13 #[.val (.long jr0), .second, .val (.long jr4), .second, .val (.long jr2), .second, .val (.long 536870923), .second, .val (.long jt0), .second, .unset, .unset] [(.long (jr0 - jt0))])) _
    rw [f2]
    refine XS.lstore X0.here hx rfl (hb hby d2_13) rfl (l' := #[.val (.long jr0), .second, .val (.long jr4), .second, .val (.long jr2), .second, .val (.long 536870923), .second, .val (.long jt0), .second, .val (.long jd0), .second]) rfl ?_
    refine XS.lload X0.here hx rfl (hb hby d2_15) rfl ?_
    refine XS.lconst X0.here hx rfl (hb hby d2_17) ?_
    show Steps p.tables e below (s₁.setTop (mkF m 18 #[.val (.long jr0), .second, .val (.long jr4), .second, .val (.long jr2), .second, .val (.long 536870923), .second, .val (.long jt0), .second, .val (.long jd0), .second] [(.long 0), (.long jd0)])) _
    refine XS.lcmp X0.here hx rfl (hb hby d2_18) rfl ?_
    refine XS.ifNo X0.here hx rfl (hb hby d2_19) rfl ((if0 _ _).trans (tlt (f3 : (lcmpW jd0 (0 : Int64)) < (0 : Int32))).2.1) ?_
    refine XS.lload X0.here hx rfl (hb hby d2_22) rfl ?_
    refine XS.lload X0.here hx rfl (hb hby d2_24) rfl ?_
    show Steps p.tables e below (s₁.setTop (mkF m 26 #[.val (.long jr0), .second, .val (.long jr4), .second, .val (.long jr2), .second, .val (.long 536870923), .second, .val (.long jt0), .second, .val (.long jd0), .second] [(.long 536870923), (.long jd0)])) _
    refine XS.ladd X0.here hx rfl (hb hby d2_26) rfl ?_
    show Steps p.tables e below (s₁.setTop (mkF m 27 #[.val (.long jr0), .second, .val (.long jr4), .second, .val (.long jr2), .second, .val (.long 536870923), .second, .val (.long jt0), .second, .val (.long jd0), .second] [(.long (jd0 + (536870923 : Int64)))])) _
    rw [f4]
    refine XS.lstore X0.here hx rfl (hb hby d2_27) rfl (l' := #[.val (.long jr0), .second, .val (.long jr4), .second, .val (.long jr2), .second, .val (.long 536870923), .second, .val (.long jt0), .second, .val (.long jx0), .second]) rfl ?_
    refine XS.lload X0.here hx rfl (hb hby d2_29) rfl ?_
    show Steps p.tables e below (s₁.setTop (mkF m 31 #[.val (.long jr0), .second, .val (.long jr4), .second, .val (.long jr2), .second, .val (.long 536870923), .second, .val (.long jt0), .second, .val (.long jx0), .second] [(.long jx0)])) _
    jvm_step X0.here [X0.here.top, hx, (hb hby d2_31), X0.method', Bd.returns, narrow]
    first | (intro acts; rw [hr _ acts rfl rfl rfl]) | rw [hr _ _ rfl rfl rfl]
    exact Steps.refl _
  · show QP (some (.long jx0)) h0 n0 _ s₁.heap _
    rw [e0]
    exact ⟨rfl, N0, rfl⟩
set_option maxRecDepth 65536 in
set_option maxHeartbeats 40000000 in
theorem rm2_16 (l : Launch) (Z : State) (a0 : Array Value) (hw : ∀ d ∈ tables_1, d.before a0 Z = true) (ws : List Jvm.Cond) (jr1 : Int64) (jr4 : Int64) (jr3 : Int64) (jt1 : Int64) (jd1 : Int64) (jx1 : Int64) (h0 : Heap) (n0 : Nat) (Z0 : n0 ≤ h0.size) (f1 : ((jr4 * jr3) % (536870923 : Int64)) = jt1) (f2 : (jr1 - jt1) = jd1) (f3 : (lcmpW jd1 (0 : Int64)) < (0 : Int32)) (f4 : (jd1 + (536870923 : Int64)) = jx1) :
    MetFree l M_1 (head1 (Jvm.Cond.code M_1 method_3_code 12 (some .long) :: ws) R_0_0_0_0) (fun a U => a = #[(.long jr1), (.long jr4), (.long jr3), (.long 536870923)] ∧ Z.Warmed39 U.vm ∧ U.heap = h0) (fun _ _ _ _ _ => True) (fun _ U o U' => ∃ v L, o = .returned v ∧ QP (some (.long jx1)) h0 n0 v U'.heap L ∧ FrameEnd U o U' L R_0_0_0_0.cells R_0_0_0_0.slots) := by
  refine MetFree.of_bodySF (plainFor_of_name pn_com_example_subsumption_subsumption_SquareSystemSubtractTimesPinLaw) hisR ?_
  intro p e s m args below meth c s₁ Bd hml0 hP hK
  obtain ⟨rfl, hZ, hh⟩ := hP
  have hx := Bd.exec
  have hby := Bd.bytes
  have hml : c.maxLocals = 12 := hml0
  have hown : s.vm.findClass "com/example/subsumption/subsumption/SquareSystemSubtractTimesPinLaw" = some m.cls := findClass_of_methodNamed Bd.named
  have hnm := (name_of_methodNamed Bd.named Bd.method).1
  have X0 : Stand p l e R_0_0_0_0 s m #[(.long jr1), (.long jr4), (.long jr3), (.long 536870923)] below meth c s₁ [] 0 0 := Stand.of_body Bd
  have e0 : s₁.heap = h0 := by rw [← hh, Bd.state]; rfl
  have N0 := Fr.nil n0
  obtain ⟨fs, hr, hrun, hended, hW, hsame⟩ := X0.leave (v := (some (.long jx1))) (fun h => by rw [Bd.returns] at h; cases h)
  refine ⟨_, _, castTop (ef2_JJJJ m jr1 jr4 jr3 (536870923 : Int64)) ?_, hrun, hended, _, _, rfl, ?_, ⟨_, rfl⟩, hW, hsame.mono (by decide) (by decide)⟩
  · show Steps p.tables e below (s₁.setTop (mkF m 0 #[.val (.long jr1), .second, .val (.long jr4), .second, .val (.long jr3), .second, .val (.long 536870923), .second, .unset, .unset, .unset, .unset] [])) _
    refine XS.lloadN X0.here hx rfl (hb hby d2_0) rfl ?_
    refine XS.lload X0.here hx rfl (hb hby d2_1) rfl ?_
    show Steps p.tables e below (s₁.setTop (mkF m 3 #[.val (.long jr1), .second, .val (.long jr4), .second, .val (.long jr3), .second, .val (.long 536870923), .second, .unset, .unset, .unset, .unset] [(.long jr3), (.long jr4)])) _
    refine XS.lmul X0.here hx rfl (hb hby d2_3) rfl ?_
    refine XS.lload X0.here hx rfl (hb hby d2_4) rfl ?_
    show Steps p.tables e below (s₁.setTop (mkF m 6 #[.val (.long jr1), .second, .val (.long jr4), .second, .val (.long jr3), .second, .val (.long 536870923), .second, .unset, .unset, .unset, .unset] [(.long 536870923), (.long (jr4 * jr3))])) _
    refine own_lremM X0 hx rfl (hb hby d2_6) rfl (by decide) ?_
    show Steps p.tables e below (s₁.setTop (mkF m 7 #[.val (.long jr1), .second, .val (.long jr4), .second, .val (.long jr3), .second, .val (.long 536870923), .second, .unset, .unset, .unset, .unset] [(.long ((jr4 * jr3) % (536870923 : Int64)))])) _
    rw [f1]
    refine XS.lstore X0.here hx rfl (hb hby d2_7) rfl (l' := #[.val (.long jr1), .second, .val (.long jr4), .second, .val (.long jr3), .second, .val (.long 536870923), .second, .val (.long jt1), .second, .unset, .unset]) rfl ?_
    refine XS.lloadN X0.here hx rfl (hb hby d2_9) rfl ?_
    refine XS.lload X0.here hx rfl (hb hby d2_10) rfl ?_
    show Steps p.tables e below (s₁.setTop (mkF m 12 #[.val (.long jr1), .second, .val (.long jr4), .second, .val (.long jr3), .second, .val (.long 536870923), .second, .val (.long jt1), .second, .unset, .unset] [(.long jt1), (.long jr1)])) _
    refine XS.lsub X0.here hx rfl (hb hby d2_12) rfl ?_
    show Steps p.tables e below (s₁.setTop (mkF m 13 #[.val (.long jr1), .second, .val (.long jr4), .second, .val (.long jr3), .second, .val (.long 536870923), .second, .val (.long jt1), .second, .unset, .unset] [(.long (jr1 - jt1))])) _
    rw [f2]
    refine XS.lstore X0.here hx rfl (hb hby d2_13) rfl (l' := #[.val (.long jr1), .second, .val (.long jr4), .second, .val (.long jr3), .second, .val (.long 536870923), .second, .val (.long jt1), .second, .val (.long jd1), .second]) rfl ?_
    refine XS.lload X0.here hx rfl (hb hby d2_15) rfl ?_
    refine XS.lconst X0.here hx rfl (hb hby d2_17) ?_
    show Steps p.tables e below (s₁.setTop (mkF m 18 #[.val (.long jr1), .second, .val (.long jr4), .second, .val (.long jr3), .second, .val (.long 536870923), .second, .val (.long jt1), .second, .val (.long jd1), .second] [(.long 0), (.long jd1)])) _
    refine XS.lcmp X0.here hx rfl (hb hby d2_18) rfl ?_
    refine XS.ifNo X0.here hx rfl (hb hby d2_19) rfl ((if0 _ _).trans (tlt (f3 : (lcmpW jd1 (0 : Int64)) < (0 : Int32))).2.1) ?_
    refine XS.lload X0.here hx rfl (hb hby d2_22) rfl ?_
    refine XS.lload X0.here hx rfl (hb hby d2_24) rfl ?_
    show Steps p.tables e below (s₁.setTop (mkF m 26 #[.val (.long jr1), .second, .val (.long jr4), .second, .val (.long jr3), .second, .val (.long 536870923), .second, .val (.long jt1), .second, .val (.long jd1), .second] [(.long 536870923), (.long jd1)])) _
    refine XS.ladd X0.here hx rfl (hb hby d2_26) rfl ?_
    show Steps p.tables e below (s₁.setTop (mkF m 27 #[.val (.long jr1), .second, .val (.long jr4), .second, .val (.long jr3), .second, .val (.long 536870923), .second, .val (.long jt1), .second, .val (.long jd1), .second] [(.long (jd1 + (536870923 : Int64)))])) _
    rw [f4]
    refine XS.lstore X0.here hx rfl (hb hby d2_27) rfl (l' := #[.val (.long jr1), .second, .val (.long jr4), .second, .val (.long jr3), .second, .val (.long 536870923), .second, .val (.long jt1), .second, .val (.long jx1), .second]) rfl ?_
    refine XS.lload X0.here hx rfl (hb hby d2_29) rfl ?_
    show Steps p.tables e below (s₁.setTop (mkF m 31 #[.val (.long jr1), .second, .val (.long jr4), .second, .val (.long jr3), .second, .val (.long 536870923), .second, .val (.long jt1), .second, .val (.long jx1), .second] [(.long jx1)])) _
    jvm_step X0.here [X0.here.top, hx, (hb hby d2_31), X0.method', Bd.returns, narrow]
    first | (intro acts; rw [hr _ acts rfl rfl rfl]) | rw [hr _ _ rfl rfl rfl]
    exact Steps.refl _
  · show QP (some (.long jx1)) h0 n0 _ s₁.heap _
    rw [e0]
    exact ⟨rfl, N0, rfl⟩
set_option maxRecDepth 65536 in
set_option maxHeartbeats 40000000 in
theorem rm0_17 (l : Launch) (Z : State) (a0 : Array Value) (hw : ∀ d ∈ tables_1, d.before a0 Z = true) (ws : List Jvm.Cond) (p0 : Int64) (p1 : Int64) (p2 : Int64) (p3 : Int64) (p4 : Int64) (jr0 : Int64) (jr1 : Int64) (jr2 : Int64) (jr3 : Int64) (jr4 : Int64) (jnf : Int64) (jm0 : Int64) (jm1 : Int64) (jt0 : Int64) (jd0 : Int64) (jx0 : Int64) (jt1 : Int64) (jd1 : Int64) (jx1 : Int64) (h0 : Heap) (n0 : Nat) (Z0 : n0 ≤ h0.size) (f1 : S_0 Z h0 (.long 536870923)) (f2 : ((p0 &&& (9223372036854775807 : Int64)) % (536870923 : Int64)) = jr0) (f3 : ((p1 &&& (9223372036854775807 : Int64)) % (536870923 : Int64)) = jr1) (f4 : ((p2 &&& (9223372036854775807 : Int64)) % (536870923 : Int64)) = jr2) (f5 : ((p3 &&& (9223372036854775807 : Int64)) % (536870923 : Int64)) = jr3) (f6 : ((p4 &&& (9223372036854775807 : Int64)) % (536870923 : Int64)) = jr4) (f7 : ¬ ((lcmpW jr4 (0 : Int64)) = (0 : Int32))) (f8 : ((536870923 : Int64) - jr4) = jnf) (f9 : ((jr0 + (jnf * jr2)) % (536870923 : Int64)) = jm0) (f10 : ((jr1 + (jnf * jr3)) % (536870923 : Int64)) = jm1) (f11 : ((jr4 * jr2) % (536870923 : Int64)) = jt0) (f12 : (jr0 - jt0) = jd0) (f13 : (lcmpW jd0 (0 : Int64)) < (0 : Int32)) (f14 : (jd0 + (536870923 : Int64)) = jx0) (f15 : (lcmpW jm0 jx0) = (0 : Int32)) (f16 : ((jr4 * jr3) % (536870923 : Int64)) = jt1) (f17 : (jr1 - jt1) = jd1) (f18 : (lcmpW jd1 (0 : Int64)) < (0 : Int32)) (f19 : (jd1 + (536870923 : Int64)) = jx1) (f20 : (lcmpW jm1 jx1) = (0 : Int32)) (f21 : (lcmpW jr2 jr2) = (0 : Int32)) (f22 : (lcmpW jr3 jr3) = (0 : Int32)) :
    MetFree l x (head1 (Jvm.Cond.code x code maxLocals ret :: ws) room_1) (fun a U => a = #[(.long p0), (.long p1), (.long p2), (.long p3), (.long p4)] ∧ Z.Warmed39 U.vm ∧ U.heap = h0) (fun _ _ _ _ _ => True) (fun _ U o U' => ∃ v L, o = .returned v ∧ QT n0 v U'.heap L ∧ FrameEnd U o U' L room_1.cells room_1.slots) := by
  refine MetFree.of_bodySF (plainFor_of_name pn_com_example_subsumption_subsumption_SquareSystemSubtractTimesPinLaw) hisR ?_
  intro p e s m args below meth c s₁ Bd hml0 hP hK
  obtain ⟨rfl, hZ, hh⟩ := hP
  have hx := Bd.exec
  have hby := Bd.bytes
  have hml : c.maxLocals = 24 := hml0
  have hown : s.vm.findClass "com/example/subsumption/subsumption/SquareSystemSubtractTimesPinLaw" = some m.cls := findClass_of_methodNamed Bd.named
  have hnm := (name_of_methodNamed Bd.named Bd.method).1
  have X0 : Stand p l e room_1 s m #[(.long p0), (.long p1), (.long p2), (.long p3), (.long p4)] below meth c s₁ [] 0 0 := Stand.of_body Bd
  have e0 : s₁.heap = h0 := by rw [← hh, Bd.state]; rfl
  have N0 := Fr.nil n0
  obtain ⟨T1, X1, e1, st1⟩ := getS2 X0 hx hZ hown (host := "") (Or.inl (tw_0 hw)) Via.refl e0 f1 (g := (mkF m 0 #[.val (.long p0), .second, .val (.long p1), .second, .val (.long p2), .second, .val (.long p3), .second, .val (.long p4), .second, .unset, .unset, .unset, .unset, .unset, .unset, .unset, .unset, .unset, .unset, .unset, .unset, .unset, .unset] [])) rfl (hb hby at_0)
  obtain ⟨T2, h2, k2, X2, e2, E2, A2, st2⟩ := newP X1 hx hZ (aty := .long) (tw_4 hw) e1 (g := (mkF m 59 #[.val (.long p0), .second, .val (.long p1), .second, .val (.long p2), .second, .val (.long p3), .second, .val (.long p4), .second, .val (.long 536870923), .second, .val (.long jr0), .second, .val (.long jr1), .second, .val (.long jr2), .second, .val (.long jr3), .second, .val (.long jr4), .second, .unset, .unset] [(.int 2)])) rfl (hb hby at_59) rfl (by decide : ¬ ((2 : Int32) < (0 : Int32))) (cap := 2) (by decide : (2 : Int32).toNatClampNeg ≤ 2) (by decide) (by decide) (by decide)
  obtain ⟨b9, g2⟩ : ∃ z, z = h0.size := ⟨_, rfl⟩
  rw [← g2] at A2 st2
  obtain ⟨kc10, gk2⟩ : ∃ z, z = k2 := ⟨_, rfl⟩
  rw [← gk2] at A2
  have sz_b9 : h0.size ≤ b9 := Nat.le_trans (Nat.le_refl _) (Nat.le_of_eq g2.symm)
  have g_b9 : n0 ≤ b9 := Nat.le_trans Z0 sz_b9
  have KK2 : Keep h0 h2 [] := (Keep.refl h0 []).ext E2
  have V2 : Arv Z h2 b9 kc10 .long (2 : Int32) [(.long 0), (.long 0)] (.long 0) := (Arv.new A2 (by decide)).pad (pad_rep [] (.long 0) 2)
  have va3 := V2
  obtain ⟨cl3, Ar3, q3, S3, N3_, H3, G3⟩ := va3
  have hin3 : ¬ ((0 : Int32) < 0 ∨ cl3.slots.size ≤ ((0 : Int32)).toNatClampNeg) := inb_of S3 ⟨by decide, by decide⟩
  obtain ⟨T4, h4, X4, e4, W4, st4⟩ := stJ X2 hx hZ e2 Ar3 (j := (0 : Int32)) hin3 (g := (mkF m 68 #[.val (.long p0), .second, .val (.long p1), .second, .val (.long p2), .second, .val (.long p3), .second, .val (.long p4), .second, .val (.long 536870923), .second, .val (.long jr0), .second, .val (.long jr1), .second, .val (.long jr2), .second, .val (.long jr3), .second, .val (.long jr4), .second, .val (.ref b9), .unset] [(.long jr0), (.int 0), (.ref b9)])) rfl rfl (hb hby at_68)
  have Vw4 : Arv Z h4 b9 kc10 .long (2 : Int32) [(.long jr0), (.long 0)] (.long 0) := Arv.set Ar3 q3 S3 N3_ H3 G3 rfl W4 0 rfl (Nat.le_of_ble_eq_true rfl)
  have KK4 : Keep h0 h4 [] := KK2.wr W4 (Or.inr sz_b9)
  have N4 := Fr.snoc X4 N0 g_b9
  have va5 := Vw4
  obtain ⟨cl5, Ar5, q5, S5, N5_, H5, G5⟩ := va5
  have hin5 : ¬ ((1 : Int32) < 0 ∨ cl5.slots.size ≤ ((1 : Int32)).toNatClampNeg) := inb_of S5 ⟨by decide, by decide⟩
  obtain ⟨T6, h6, X6, e6, W6, st6⟩ := stJ X4 hx hZ e4 Ar5 (j := (1 : Int32)) hin5 (g := (mkF m 74 #[.val (.long p0), .second, .val (.long p1), .second, .val (.long p2), .second, .val (.long p3), .second, .val (.long p4), .second, .val (.long 536870923), .second, .val (.long jr0), .second, .val (.long jr1), .second, .val (.long jr2), .second, .val (.long jr3), .second, .val (.long jr4), .second, .val (.ref b9), .unset] [(.long jr1), (.int 1), (.ref b9)])) rfl rfl (hb hby at_74)
  have Vw6 : Arv Z h6 b9 kc10 .long (2 : Int32) [(.long jr0), (.long jr1)] (.long 0) := Arv.set Ar5 q5 S5 N5_ H5 G5 rfl W6 1 rfl (Nat.le_of_ble_eq_true rfl)
  have KK6 : Keep h0 h6 [] := KK4.wr W6 (Or.inr sz_b9)
  have N6 := Fr.snoc X6 N4 g_b9
  obtain ⟨T7, h7, k7, X7, e7, E7, A7, st7⟩ := newP X6 hx hZ (aty := .long) (tw_4 hw) e6 (g := (mkF m 76 #[.val (.long p0), .second, .val (.long p1), .second, .val (.long p2), .second, .val (.long p3), .second, .val (.long p4), .second, .val (.long 536870923), .second, .val (.long jr0), .second, .val (.long jr1), .second, .val (.long jr2), .second, .val (.long jr3), .second, .val (.long jr4), .second, .val (.ref b9), .unset] [(.int 2)])) rfl (hb hby at_76) rfl (by decide : ¬ ((2 : Int32) < (0 : Int32))) (cap := 2) (by decide : (2 : Int32).toNatClampNeg ≤ 2) (by decide) (by decide) (by decide)
  obtain ⟨b11, g7⟩ : ∃ z, z = h6.size := ⟨_, rfl⟩
  rw [← g7] at A7 st7
  obtain ⟨kc12, gk7⟩ : ∃ z, z = k7 := ⟨_, rfl⟩
  rw [← gk7] at A7
  have sz_b11 : h0.size ≤ b11 := Nat.le_trans KK6.1 (Nat.le_of_eq g7.symm)
  have g_b11 : n0 ≤ b11 := Nat.le_trans Z0 sz_b11
  have KK7 : Keep h0 h7 [] := KK6.ext E7
  have V7 : Arv Z h7 b11 kc12 .long (2 : Int32) [(.long 0), (.long 0)] (.long 0) := (Arv.new A7 (by decide)).pad (pad_rep [] (.long 0) 2)
  have va8 := V7
  obtain ⟨cl8, Ar8, q8, S8, N8_, H8, G8⟩ := va8
  have hin8 : ¬ ((0 : Int32) < 0 ∨ cl8.slots.size ≤ ((0 : Int32)).toNatClampNeg) := inb_of S8 ⟨by decide, by decide⟩
  obtain ⟨T9, h9, X9, e9, W9, st9⟩ := stJ X7 hx hZ e7 Ar8 (j := (0 : Int32)) hin8 (g := (mkF m 85 #[.val (.long p0), .second, .val (.long p1), .second, .val (.long p2), .second, .val (.long p3), .second, .val (.long p4), .second, .val (.long 536870923), .second, .val (.long jr0), .second, .val (.long jr1), .second, .val (.long jr2), .second, .val (.long jr3), .second, .val (.long jr4), .second, .val (.ref b9), .val (.ref b11)] [(.long jr2), (.int 0), (.ref b11)])) rfl rfl (hb hby at_85)
  have Vw9 : Arv Z h9 b11 kc12 .long (2 : Int32) [(.long jr2), (.long 0)] (.long 0) := Arv.set Ar8 q8 S8 N8_ H8 G8 rfl W9 0 rfl (Nat.le_of_ble_eq_true rfl)
  have KK9 : Keep h0 h9 [] := KK7.wr W9 (Or.inr sz_b11)
  have N9 := Fr.snoc X9 N6 g_b11
  have va10 := Vw9
  obtain ⟨cl10, Ar10, q10, S10, N10_, H10, G10⟩ := va10
  have hin10 : ¬ ((1 : Int32) < 0 ∨ cl10.slots.size ≤ ((1 : Int32)).toNatClampNeg) := inb_of S10 ⟨by decide, by decide⟩
  obtain ⟨T11, h11, X11, e11, W11, st11⟩ := stJ X9 hx hZ e9 Ar10 (j := (1 : Int32)) hin10 (g := (mkF m 91 #[.val (.long p0), .second, .val (.long p1), .second, .val (.long p2), .second, .val (.long p3), .second, .val (.long p4), .second, .val (.long 536870923), .second, .val (.long jr0), .second, .val (.long jr1), .second, .val (.long jr2), .second, .val (.long jr3), .second, .val (.long jr4), .second, .val (.ref b9), .val (.ref b11)] [(.long jr3), (.int 1), (.ref b11)])) rfl rfl (hb hby at_91)
  have Vw11 : Arv Z h11 b11 kc12 .long (2 : Int32) [(.long jr2), (.long jr3)] (.long 0) := Arv.set Ar10 q10 S10 N10_ H10 G10 rfl W11 1 rfl (Nat.le_of_ble_eq_true rfl)
  have KK11 : Keep h0 h11 [] := KK9.wr W11 (Or.inr sz_b11)
  have N11 := Fr.snoc X11 N9 g_b11
  -- pc 98: com/example/subsumption/subsumption/SquareSystem.subtractTimes
  have u12 : S_0 Z h2 (.long 536870923) := Sta.ext E2 f1
  have u13 : S_0 Z h4 (.long 536870923) := Sta.wr W4 u12
  have u14 : S_0 Z h6 (.long 536870923) := Sta.wr W6 u13
  have u15 : S_0 Z h7 (.long 536870923) := Sta.ext E7 u14
  have u16 : S_0 Z h9 (.long 536870923) := Sta.wr W9 u15
  have u17 : S_0 Z h11 (.long 536870923) := Sta.wr W11 u16
  have u18 : Arv Z h7 b9 kc10 .long (2 : Int32) [(.long jr0), (.long jr1)] (.long 0) := Arv.ext Vw6 E7
  have ne19 : b9 ≠ b11 := Nat.ne_of_lt (Nat.lt_of_lt_of_le (Arv.lt Vw6) (Nat.le_of_eq g7.symm))
  have u20 : Arv Z h9 b9 kc10 .long (2 : Int32) [(.long jr0), (.long jr1)] (.long 0) := Arv.other u18 W9 ne19
  have u21 : Arv Z h11 b9 kc10 .long (2 : Int32) [(.long jr0), (.long jr1)] (.long 0) := Arv.other u20 W11 ne19
  obtain ⟨_, _, ⟨T22, L22, k22, n22⟩, -, X22, ⟨Lc22, hQ22, l22, y22, z22⟩, st22⟩ := Jvm.LawKit.callS X11 hx (y := M_0) hown (mvT hZ (tw_5 hw)) (mvT hZ (tw_6 hw)) (mvT hZ (tw_1 hw)) (mvT hZ (tw_7 hw)) (by decide) (backOf (W := 0) (rm1_13 l Z a0 hw [] b9 jr4 b11 jnf kc10 jr0 jr1 kc12 jr2 jr3 jm0 jm1 h11 n0 (Nat.le_trans Z0 KK11.1) f7 u17 f8 u21 Vw11 f9 g_b9 (Ne.symm ne19) f10) hZ (tw_7 hw) (tw_1 hw) (by decide) (by decide)) (g := (mkF m 98 #[.val (.long p0), .second, .val (.long p1), .second, .val (.long p2), .second, .val (.long p3), .second, .val (.long p4), .second, .val (.long 536870923), .second, .val (.long jr0), .second, .val (.long jr1), .second, .val (.long jr2), .second, .val (.long jr3), .second, .val (.long jr4), .second, .val (.ref b9), .val (.ref b11)] [(.ref b11), (.long jr4), (.ref b9)])) rfl (by rw [hml]; rfl) (argsL := [(.ref b9), (.long jr4), (.ref b11)]) (rest := []) (lenOf pd_0 rfl) rfl (by show 2 * 0 + _ ≤ _; exact Nat.le_of_eq rfl) (hb hby at_98) (fun _ _ => ⟨rfl, e11, (by decide : 2 + 0 ≤ _), (by decide : 4 + 0 ≤ _)⟩)
  dsimp only [Pt.U, Pt.locs, Pt.cells, Pt.slots] at X22 l22 y22 z22 st22 hQ22
  subst l22 y22 z22
  obtain ⟨rfl, Nq22, K22, o22_0⟩ := hQ22
  have N22 := Fr.app N11 Nq22
  have KK22 : Keep h0 T22.heap [] := KK11.trans K22 (fun x hx => (List.mem_cons.mp hx).elim (fun q => q ▸ (Or.inr sz_b9)) (fun hx => nomatch hx))
  have va23 := o22_0
  obtain ⟨cl23, Ar23, -, S23, N23_, -, -⟩ := va23
  have va24 := o22_0
  obtain ⟨cl24, Ar24, -, S24, -, H24, -⟩ := va24
  have hin24 : ¬ ((0 : Int32) < 0 ∨ cl24.slots.size ≤ ((0 : Int32)).toNatClampNeg) := inb_of S24 ⟨by decide, by decide⟩
  have hat24 : cl24.slots[((0 : Int32)).toNatClampNeg]? = some (.long jm0) := H24 _ (Nat.lt_of_not_le fun y => hin24 (Or.inr y))
  -- pc 120: com/example/subsumption/subsumption/SquareSystemSubtractTimesPinLaw.expected
  obtain ⟨_, _, ⟨T25, L25, k25, n25⟩, -, X25, ⟨Lc25, hQ25, l25, y25, z25⟩, st25⟩ := Jvm.LawKit.callS X22 hx (y := M_1) hown (mvT hZ (tw_8 hw)) (mvT hZ (tw_9 hw)) (mvT hZ (tw_10 hw)) (mvT hZ (tw_11 hw)) (by decide) (backOf (W := 2) (rm2_15 l Z a0 hw [] jr0 jr4 jr2 jt0 jd0 jx0 T22.heap n0 (Nat.le_trans Z0 KK22.1) f11 f12 f13 f14) hZ (tw_11 hw) (tw_10 hw) (by decide) (by decide)) (g := (mkF m 120 #[.val (.long p0), .second, .val (.long p1), .second, .val (.long p2), .second, .val (.long p3), .second, .val (.long p4), .second, .val (.long 536870923), .second, .val (.long jr0), .second, .val (.long jr1), .second, .val (.long jr2), .second, .val (.long jr3), .second, .val (.long jr4), .second, .val (.ref b9), .val (.ref b11)] [(.long 536870923), (.long jr2), (.long jr4), (.long jr0), (.long jm0)])) rfl (by rw [hml]; rfl) (argsL := [(.long jr0), (.long jr4), (.long jr2), (.long 536870923)]) (rest := [(.long jm0)]) (lenOf pd_1 rfl) rfl (by show 2 * 0 + _ ≤ _; exact Nat.le_of_eq rfl) (hb hby at_120) (fun _ _ => ⟨rfl, rfl, (by decide : 2 + 0 ≤ _), (by decide : 4 + 0 ≤ _)⟩)
  dsimp only [Pt.U, Pt.locs, Pt.cells, Pt.slots] at X25 l25 y25 z25 st25 hQ25
  subst l25 y25 z25
  obtain ⟨rfl, Nq25, e25⟩ := hQ25
  have N25 := Fr.app N22 Nq25
  have va26 := o22_0
  obtain ⟨cl26, Ar26, -, S26, -, H26, -⟩ := va26
  have hin26 : ¬ ((1 : Int32) < 0 ∨ cl26.slots.size ≤ ((1 : Int32)).toNatClampNeg) := inb_of S26 ⟨by decide, by decide⟩
  have hat26 : cl26.slots[((1 : Int32)).toNatClampNeg]? = some (.long jm1) := H26 _ (Nat.lt_of_not_le fun y => hin26 (Or.inr y))
  -- pc 139: com/example/subsumption/subsumption/SquareSystemSubtractTimesPinLaw.expected
  obtain ⟨_, _, ⟨T27, L27, k27, n27⟩, -, X27, ⟨Lc27, hQ27, l27, y27, z27⟩, st27⟩ := Jvm.LawKit.callS X25 hx (y := M_1) hown (mvT hZ (tw_8 hw)) (mvT hZ (tw_9 hw)) (mvT hZ (tw_10 hw)) (mvT hZ (tw_11 hw)) (by decide) (backOf (W := 2) (rm2_16 l Z a0 hw [] jr1 jr4 jr3 jt1 jd1 jx1 T22.heap n0 (Nat.le_trans Z0 KK22.1) f16 f17 f18 f19) hZ (tw_11 hw) (tw_10 hw) (by decide) (by decide)) (g := (mkF m 139 #[.val (.long p0), .second, .val (.long p1), .second, .val (.long p2), .second, .val (.long p3), .second, .val (.long p4), .second, .val (.long 536870923), .second, .val (.long jr0), .second, .val (.long jr1), .second, .val (.long jr2), .second, .val (.long jr3), .second, .val (.long jr4), .second, .val (.ref b9), .val (.ref b11)] [(.long 536870923), (.long jr3), (.long jr4), (.long jr1), (.long jm1)])) rfl (by rw [hml]; rfl) (argsL := [(.long jr1), (.long jr4), (.long jr3), (.long 536870923)]) (rest := [(.long jm1)]) (lenOf pd_1 rfl) rfl (by show 2 * 0 + _ ≤ _; exact Nat.le_of_eq rfl) (hb hby at_139) (fun _ _ => ⟨rfl, e25, (by decide : 2 + 0 ≤ _), (by decide : 4 + 0 ≤ _)⟩)
  dsimp only [Pt.U, Pt.locs, Pt.cells, Pt.slots] at X27 l27 y27 z27 st27 hQ27
  subst l27 y27 z27
  obtain ⟨rfl, Nq27, e27⟩ := hQ27
  have N27 := Fr.app N25 Nq27
  have u28 : Arv Z T22.heap b11 kc12 .long (2 : Int32) [(.long jr2), (.long jr3)] (.long 0) := Arv.keep Vw11 K22 (own_notin (Ne.symm ne19) List.not_mem_nil)
  have va29 := u28
  obtain ⟨cl29, Ar29, -, S29, -, H29, -⟩ := va29
  have hin29 : ¬ ((0 : Int32) < 0 ∨ cl29.slots.size ≤ ((0 : Int32)).toNatClampNeg) := inb_of S29 ⟨by decide, by decide⟩
  have hat29 : cl29.slots[((0 : Int32)).toNatClampNeg]? = some (.long jr2) := H29 _ (Nat.lt_of_not_le fun y => hin29 (Or.inr y))
  have va30 := u28
  obtain ⟨cl30, Ar30, -, S30, -, H30, -⟩ := va30
  have hin30 : ¬ ((1 : Int32) < 0 ∨ cl30.slots.size ≤ ((1 : Int32)).toNatClampNeg) := inb_of S30 ⟨by decide, by decide⟩
  have hat30 : cl30.slots[((1 : Int32)).toNatClampNeg]? = some (.long jr3) := H30 _ (Nat.lt_of_not_le fun y => hin30 (Or.inr y))
  obtain ⟨fs, hr, hrun, hended, hW, hsame⟩ := X27.leave (v := (some (.int 1))) (fun h => by rw [Bd.returns] at h; cases h)
  refine ⟨_, _, castTop (ef0_JJJJJ m p0 p1 p2 p3 p4) ?_, hrun, hended, _, _, rfl, ?_, ⟨_, rfl⟩, hW, hsame.mono (by decide) (by decide)⟩
  · show Steps p.tables e below (s₁.setTop (mkF m 0 #[.val (.long p0), .second, .val (.long p1), .second, .val (.long p2), .second, .val (.long p3), .second, .val (.long p4), .second, .unset, .unset, .unset, .unset, .unset, .unset, .unset, .unset, .unset, .unset, .unset, .unset, .unset, .unset] [])) _
    refine st1 _ ?_
    refine XS.lstore X1.here hx rfl (hb hby at_3) rfl (l' := #[.val (.long p0), .second, .val (.long p1), .second, .val (.long p2), .second, .val (.long p3), .second, .val (.long p4), .second, .val (.long 536870923), .second, .unset, .unset, .unset, .unset, .unset, .unset, .unset, .unset, .unset, .unset, .unset, .unset]) rfl ?_
    refine XS.lloadN X1.here hx rfl (hb hby at_5) rfl ?_
    show Steps p.tables e below (T1.setTop (mkF m 6 #[.val (.long p0), .second, .val (.long p1), .second, .val (.long p2), .second, .val (.long p3), .second, .val (.long p4), .second, .val (.long 536870923), .second, .unset, .unset, .unset, .unset, .unset, .unset, .unset, .unset, .unset, .unset, .unset, .unset] [(.long p0)])) _
    refine X1.ldc2Long hx hown (mvT hZ (tw_3 hw)) (g := (mkF m 6 #[.val (.long p0), .second, .val (.long p1), .second, .val (.long p2), .second, .val (.long p3), .second, .val (.long p4), .second, .val (.long 536870923), .second, .unset, .unset, .unset, .unset, .unset, .unset, .unset, .unset, .unset, .unset, .unset, .unset] [(.long p0)])) rfl (hb hby at_6) _ ?_
    show Steps p.tables e below (T1.setTop (mkF m 9 #[.val (.long p0), .second, .val (.long p1), .second, .val (.long p2), .second, .val (.long p3), .second, .val (.long p4), .second, .val (.long 536870923), .second, .unset, .unset, .unset, .unset, .unset, .unset, .unset, .unset, .unset, .unset, .unset, .unset] [(.long 9223372036854775807), (.long p0)])) _
    refine XS.land X1.here hx rfl (hb hby at_9) rfl ?_
    refine XS.lload X1.here hx rfl (hb hby at_10) rfl ?_
    show Steps p.tables e below (T1.setTop (mkF m 12 #[.val (.long p0), .second, .val (.long p1), .second, .val (.long p2), .second, .val (.long p3), .second, .val (.long p4), .second, .val (.long 536870923), .second, .unset, .unset, .unset, .unset, .unset, .unset, .unset, .unset, .unset, .unset, .unset, .unset] [(.long 536870923), (.long (p0 &&& (9223372036854775807 : Int64)))])) _
    refine own_lremM X1 hx rfl (hb hby at_12) rfl (by decide) ?_
    show Steps p.tables e below (T1.setTop (mkF m 13 #[.val (.long p0), .second, .val (.long p1), .second, .val (.long p2), .second, .val (.long p3), .second, .val (.long p4), .second, .val (.long 536870923), .second, .unset, .unset, .unset, .unset, .unset, .unset, .unset, .unset, .unset, .unset, .unset, .unset] [(.long ((p0 &&& (9223372036854775807 : Int64)) % (536870923 : Int64)))])) _
    rw [f2]
    refine XS.lstore X1.here hx rfl (hb hby at_13) rfl (l' := #[.val (.long p0), .second, .val (.long p1), .second, .val (.long p2), .second, .val (.long p3), .second, .val (.long p4), .second, .val (.long 536870923), .second, .val (.long jr0), .second, .unset, .unset, .unset, .unset, .unset, .unset, .unset, .unset, .unset, .unset]) rfl ?_
    refine XS.lloadN X1.here hx rfl (hb hby at_15) rfl ?_
    show Steps p.tables e below (T1.setTop (mkF m 16 #[.val (.long p0), .second, .val (.long p1), .second, .val (.long p2), .second, .val (.long p3), .second, .val (.long p4), .second, .val (.long 536870923), .second, .val (.long jr0), .second, .unset, .unset, .unset, .unset, .unset, .unset, .unset, .unset, .unset, .unset] [(.long p1)])) _
    refine X1.ldc2Long hx hown (mvT hZ (tw_3 hw)) (g := (mkF m 16 #[.val (.long p0), .second, .val (.long p1), .second, .val (.long p2), .second, .val (.long p3), .second, .val (.long p4), .second, .val (.long 536870923), .second, .val (.long jr0), .second, .unset, .unset, .unset, .unset, .unset, .unset, .unset, .unset, .unset, .unset] [(.long p1)])) rfl (hb hby at_16) _ ?_
    show Steps p.tables e below (T1.setTop (mkF m 19 #[.val (.long p0), .second, .val (.long p1), .second, .val (.long p2), .second, .val (.long p3), .second, .val (.long p4), .second, .val (.long 536870923), .second, .val (.long jr0), .second, .unset, .unset, .unset, .unset, .unset, .unset, .unset, .unset, .unset, .unset] [(.long 9223372036854775807), (.long p1)])) _
    refine XS.land X1.here hx rfl (hb hby at_19) rfl ?_
    refine XS.lload X1.here hx rfl (hb hby at_20) rfl ?_
    show Steps p.tables e below (T1.setTop (mkF m 22 #[.val (.long p0), .second, .val (.long p1), .second, .val (.long p2), .second, .val (.long p3), .second, .val (.long p4), .second, .val (.long 536870923), .second, .val (.long jr0), .second, .unset, .unset, .unset, .unset, .unset, .unset, .unset, .unset, .unset, .unset] [(.long 536870923), (.long (p1 &&& (9223372036854775807 : Int64)))])) _
    refine own_lremM X1 hx rfl (hb hby at_22) rfl (by decide) ?_
    show Steps p.tables e below (T1.setTop (mkF m 23 #[.val (.long p0), .second, .val (.long p1), .second, .val (.long p2), .second, .val (.long p3), .second, .val (.long p4), .second, .val (.long 536870923), .second, .val (.long jr0), .second, .unset, .unset, .unset, .unset, .unset, .unset, .unset, .unset, .unset, .unset] [(.long ((p1 &&& (9223372036854775807 : Int64)) % (536870923 : Int64)))])) _
    rw [f3]
    refine XS.lstore X1.here hx rfl (hb hby at_23) rfl (l' := #[.val (.long p0), .second, .val (.long p1), .second, .val (.long p2), .second, .val (.long p3), .second, .val (.long p4), .second, .val (.long 536870923), .second, .val (.long jr0), .second, .val (.long jr1), .second, .unset, .unset, .unset, .unset, .unset, .unset, .unset, .unset]) rfl ?_
    refine XS.lload X1.here hx rfl (hb hby at_25) rfl ?_
    show Steps p.tables e below (T1.setTop (mkF m 27 #[.val (.long p0), .second, .val (.long p1), .second, .val (.long p2), .second, .val (.long p3), .second, .val (.long p4), .second, .val (.long 536870923), .second, .val (.long jr0), .second, .val (.long jr1), .second, .unset, .unset, .unset, .unset, .unset, .unset, .unset, .unset] [(.long p2)])) _
    refine X1.ldc2Long hx hown (mvT hZ (tw_3 hw)) (g := (mkF m 27 #[.val (.long p0), .second, .val (.long p1), .second, .val (.long p2), .second, .val (.long p3), .second, .val (.long p4), .second, .val (.long 536870923), .second, .val (.long jr0), .second, .val (.long jr1), .second, .unset, .unset, .unset, .unset, .unset, .unset, .unset, .unset] [(.long p2)])) rfl (hb hby at_27) _ ?_
    show Steps p.tables e below (T1.setTop (mkF m 30 #[.val (.long p0), .second, .val (.long p1), .second, .val (.long p2), .second, .val (.long p3), .second, .val (.long p4), .second, .val (.long 536870923), .second, .val (.long jr0), .second, .val (.long jr1), .second, .unset, .unset, .unset, .unset, .unset, .unset, .unset, .unset] [(.long 9223372036854775807), (.long p2)])) _
    refine XS.land X1.here hx rfl (hb hby at_30) rfl ?_
    refine XS.lload X1.here hx rfl (hb hby at_31) rfl ?_
    show Steps p.tables e below (T1.setTop (mkF m 33 #[.val (.long p0), .second, .val (.long p1), .second, .val (.long p2), .second, .val (.long p3), .second, .val (.long p4), .second, .val (.long 536870923), .second, .val (.long jr0), .second, .val (.long jr1), .second, .unset, .unset, .unset, .unset, .unset, .unset, .unset, .unset] [(.long 536870923), (.long (p2 &&& (9223372036854775807 : Int64)))])) _
    refine own_lremM X1 hx rfl (hb hby at_33) rfl (by decide) ?_
    show Steps p.tables e below (T1.setTop (mkF m 34 #[.val (.long p0), .second, .val (.long p1), .second, .val (.long p2), .second, .val (.long p3), .second, .val (.long p4), .second, .val (.long 536870923), .second, .val (.long jr0), .second, .val (.long jr1), .second, .unset, .unset, .unset, .unset, .unset, .unset, .unset, .unset] [(.long ((p2 &&& (9223372036854775807 : Int64)) % (536870923 : Int64)))])) _
    rw [f4]
    refine XS.lstore X1.here hx rfl (hb hby at_34) rfl (l' := #[.val (.long p0), .second, .val (.long p1), .second, .val (.long p2), .second, .val (.long p3), .second, .val (.long p4), .second, .val (.long 536870923), .second, .val (.long jr0), .second, .val (.long jr1), .second, .val (.long jr2), .second, .unset, .unset, .unset, .unset, .unset, .unset]) rfl ?_
    refine XS.lload X1.here hx rfl (hb hby at_36) rfl ?_
    show Steps p.tables e below (T1.setTop (mkF m 38 #[.val (.long p0), .second, .val (.long p1), .second, .val (.long p2), .second, .val (.long p3), .second, .val (.long p4), .second, .val (.long 536870923), .second, .val (.long jr0), .second, .val (.long jr1), .second, .val (.long jr2), .second, .unset, .unset, .unset, .unset, .unset, .unset] [(.long p3)])) _
    refine X1.ldc2Long hx hown (mvT hZ (tw_3 hw)) (g := (mkF m 38 #[.val (.long p0), .second, .val (.long p1), .second, .val (.long p2), .second, .val (.long p3), .second, .val (.long p4), .second, .val (.long 536870923), .second, .val (.long jr0), .second, .val (.long jr1), .second, .val (.long jr2), .second, .unset, .unset, .unset, .unset, .unset, .unset] [(.long p3)])) rfl (hb hby at_38) _ ?_
    show Steps p.tables e below (T1.setTop (mkF m 41 #[.val (.long p0), .second, .val (.long p1), .second, .val (.long p2), .second, .val (.long p3), .second, .val (.long p4), .second, .val (.long 536870923), .second, .val (.long jr0), .second, .val (.long jr1), .second, .val (.long jr2), .second, .unset, .unset, .unset, .unset, .unset, .unset] [(.long 9223372036854775807), (.long p3)])) _
    refine XS.land X1.here hx rfl (hb hby at_41) rfl ?_
    refine XS.lload X1.here hx rfl (hb hby at_42) rfl ?_
    show Steps p.tables e below (T1.setTop (mkF m 44 #[.val (.long p0), .second, .val (.long p1), .second, .val (.long p2), .second, .val (.long p3), .second, .val (.long p4), .second, .val (.long 536870923), .second, .val (.long jr0), .second, .val (.long jr1), .second, .val (.long jr2), .second, .unset, .unset, .unset, .unset, .unset, .unset] [(.long 536870923), (.long (p3 &&& (9223372036854775807 : Int64)))])) _
    refine own_lremM X1 hx rfl (hb hby at_44) rfl (by decide) ?_
    show Steps p.tables e below (T1.setTop (mkF m 45 #[.val (.long p0), .second, .val (.long p1), .second, .val (.long p2), .second, .val (.long p3), .second, .val (.long p4), .second, .val (.long 536870923), .second, .val (.long jr0), .second, .val (.long jr1), .second, .val (.long jr2), .second, .unset, .unset, .unset, .unset, .unset, .unset] [(.long ((p3 &&& (9223372036854775807 : Int64)) % (536870923 : Int64)))])) _
    rw [f5]
    refine XS.lstore X1.here hx rfl (hb hby at_45) rfl (l' := #[.val (.long p0), .second, .val (.long p1), .second, .val (.long p2), .second, .val (.long p3), .second, .val (.long p4), .second, .val (.long 536870923), .second, .val (.long jr0), .second, .val (.long jr1), .second, .val (.long jr2), .second, .val (.long jr3), .second, .unset, .unset, .unset, .unset]) rfl ?_
    refine XS.lload X1.here hx rfl (hb hby at_47) rfl ?_
    show Steps p.tables e below (T1.setTop (mkF m 49 #[.val (.long p0), .second, .val (.long p1), .second, .val (.long p2), .second, .val (.long p3), .second, .val (.long p4), .second, .val (.long 536870923), .second, .val (.long jr0), .second, .val (.long jr1), .second, .val (.long jr2), .second, .val (.long jr3), .second, .unset, .unset, .unset, .unset] [(.long p4)])) _
    refine X1.ldc2Long hx hown (mvT hZ (tw_3 hw)) (g := (mkF m 49 #[.val (.long p0), .second, .val (.long p1), .second, .val (.long p2), .second, .val (.long p3), .second, .val (.long p4), .second, .val (.long 536870923), .second, .val (.long jr0), .second, .val (.long jr1), .second, .val (.long jr2), .second, .val (.long jr3), .second, .unset, .unset, .unset, .unset] [(.long p4)])) rfl (hb hby at_49) _ ?_
    show Steps p.tables e below (T1.setTop (mkF m 52 #[.val (.long p0), .second, .val (.long p1), .second, .val (.long p2), .second, .val (.long p3), .second, .val (.long p4), .second, .val (.long 536870923), .second, .val (.long jr0), .second, .val (.long jr1), .second, .val (.long jr2), .second, .val (.long jr3), .second, .unset, .unset, .unset, .unset] [(.long 9223372036854775807), (.long p4)])) _
    refine XS.land X1.here hx rfl (hb hby at_52) rfl ?_
    refine XS.lload X1.here hx rfl (hb hby at_53) rfl ?_
    show Steps p.tables e below (T1.setTop (mkF m 55 #[.val (.long p0), .second, .val (.long p1), .second, .val (.long p2), .second, .val (.long p3), .second, .val (.long p4), .second, .val (.long 536870923), .second, .val (.long jr0), .second, .val (.long jr1), .second, .val (.long jr2), .second, .val (.long jr3), .second, .unset, .unset, .unset, .unset] [(.long 536870923), (.long (p4 &&& (9223372036854775807 : Int64)))])) _
    refine own_lremM X1 hx rfl (hb hby at_55) rfl (by decide) ?_
    show Steps p.tables e below (T1.setTop (mkF m 56 #[.val (.long p0), .second, .val (.long p1), .second, .val (.long p2), .second, .val (.long p3), .second, .val (.long p4), .second, .val (.long 536870923), .second, .val (.long jr0), .second, .val (.long jr1), .second, .val (.long jr2), .second, .val (.long jr3), .second, .unset, .unset, .unset, .unset] [(.long ((p4 &&& (9223372036854775807 : Int64)) % (536870923 : Int64)))])) _
    rw [f6]
    refine XS.lstore X1.here hx rfl (hb hby at_56) rfl (l' := #[.val (.long p0), .second, .val (.long p1), .second, .val (.long p2), .second, .val (.long p3), .second, .val (.long p4), .second, .val (.long 536870923), .second, .val (.long jr0), .second, .val (.long jr1), .second, .val (.long jr2), .second, .val (.long jr3), .second, .val (.long jr4), .second, .unset, .unset]) rfl ?_
    refine XS.iconst X1.here hx rfl (hb hby at_58) ?_
    show Steps p.tables e below (T1.setTop (mkF m 59 #[.val (.long p0), .second, .val (.long p1), .second, .val (.long p2), .second, .val (.long p3), .second, .val (.long p4), .second, .val (.long 536870923), .second, .val (.long jr0), .second, .val (.long jr1), .second, .val (.long jr2), .second, .val (.long jr3), .second, .val (.long jr4), .second, .unset, .unset] [(.int 2)])) _
    refine st2 _ ?_
    refine XS.astore X2.here hx rfl (hb hby at_61) rfl rfl (l' := #[.val (.long p0), .second, .val (.long p1), .second, .val (.long p2), .second, .val (.long p3), .second, .val (.long p4), .second, .val (.long 536870923), .second, .val (.long jr0), .second, .val (.long jr1), .second, .val (.long jr2), .second, .val (.long jr3), .second, .val (.long jr4), .second, .val (.ref b9), .unset]) rfl ?_
    refine XS.aload X2.here hx rfl (hb hby at_63) rfl rfl ?_
    refine XS.iconst X2.here hx rfl (hb hby at_65) ?_
    refine XS.lload X2.here hx rfl (hb hby at_66) rfl ?_
    show Steps p.tables e below (T2.setTop (mkF m 68 #[.val (.long p0), .second, .val (.long p1), .second, .val (.long p2), .second, .val (.long p3), .second, .val (.long p4), .second, .val (.long 536870923), .second, .val (.long jr0), .second, .val (.long jr1), .second, .val (.long jr2), .second, .val (.long jr3), .second, .val (.long jr4), .second, .val (.ref b9), .unset] [(.long jr0), (.int 0), (.ref b9)])) _
    refine st4 _ ?_
    refine XS.aload X4.here hx rfl (hb hby at_69) rfl rfl ?_
    refine XS.iconst X4.here hx rfl (hb hby at_71) ?_
    refine XS.lload X4.here hx rfl (hb hby at_72) rfl ?_
    show Steps p.tables e below (T4.setTop (mkF m 74 #[.val (.long p0), .second, .val (.long p1), .second, .val (.long p2), .second, .val (.long p3), .second, .val (.long p4), .second, .val (.long 536870923), .second, .val (.long jr0), .second, .val (.long jr1), .second, .val (.long jr2), .second, .val (.long jr3), .second, .val (.long jr4), .second, .val (.ref b9), .unset] [(.long jr1), (.int 1), (.ref b9)])) _
    refine st6 _ ?_
    refine XS.iconst X6.here hx rfl (hb hby at_75) ?_
    show Steps p.tables e below (T6.setTop (mkF m 76 #[.val (.long p0), .second, .val (.long p1), .second, .val (.long p2), .second, .val (.long p3), .second, .val (.long p4), .second, .val (.long 536870923), .second, .val (.long jr0), .second, .val (.long jr1), .second, .val (.long jr2), .second, .val (.long jr3), .second, .val (.long jr4), .second, .val (.ref b9), .unset] [(.int 2)])) _
    refine st7 _ ?_
    refine XS.astore X7.here hx rfl (hb hby at_78) rfl rfl (l' := #[.val (.long p0), .second, .val (.long p1), .second, .val (.long p2), .second, .val (.long p3), .second, .val (.long p4), .second, .val (.long 536870923), .second, .val (.long jr0), .second, .val (.long jr1), .second, .val (.long jr2), .second, .val (.long jr3), .second, .val (.long jr4), .second, .val (.ref b9), .val (.ref b11)]) rfl ?_
    refine XS.aload X7.here hx rfl (hb hby at_80) rfl rfl ?_
    refine XS.iconst X7.here hx rfl (hb hby at_82) ?_
    refine XS.lload X7.here hx rfl (hb hby at_83) rfl ?_
    show Steps p.tables e below (T7.setTop (mkF m 85 #[.val (.long p0), .second, .val (.long p1), .second, .val (.long p2), .second, .val (.long p3), .second, .val (.long p4), .second, .val (.long 536870923), .second, .val (.long jr0), .second, .val (.long jr1), .second, .val (.long jr2), .second, .val (.long jr3), .second, .val (.long jr4), .second, .val (.ref b9), .val (.ref b11)] [(.long jr2), (.int 0), (.ref b11)])) _
    refine st9 _ ?_
    refine XS.aload X9.here hx rfl (hb hby at_86) rfl rfl ?_
    refine XS.iconst X9.here hx rfl (hb hby at_88) ?_
    refine XS.lload X9.here hx rfl (hb hby at_89) rfl ?_
    show Steps p.tables e below (T9.setTop (mkF m 91 #[.val (.long p0), .second, .val (.long p1), .second, .val (.long p2), .second, .val (.long p3), .second, .val (.long p4), .second, .val (.long 536870923), .second, .val (.long jr0), .second, .val (.long jr1), .second, .val (.long jr2), .second, .val (.long jr3), .second, .val (.long jr4), .second, .val (.ref b9), .val (.ref b11)] [(.long jr3), (.int 1), (.ref b11)])) _
    refine st11 _ ?_
    refine XS.aload X11.here hx rfl (hb hby at_92) rfl rfl ?_
    refine XS.lload X11.here hx rfl (hb hby at_94) rfl ?_
    refine XS.aload X11.here hx rfl (hb hby at_96) rfl rfl ?_
    show Steps p.tables e below (T11.setTop (mkF m 98 #[.val (.long p0), .second, .val (.long p1), .second, .val (.long p2), .second, .val (.long p3), .second, .val (.long p4), .second, .val (.long 536870923), .second, .val (.long jr0), .second, .val (.long jr1), .second, .val (.long jr2), .second, .val (.long jr3), .second, .val (.long jr4), .second, .val (.ref b9), .val (.ref b11)] [(.ref b11), (.long jr4), (.ref b9)])) _
    refine st22 _ ?_
    refine XS.aload X22.here hx rfl (hb hby at_101) rfl rfl ?_
    show Steps p.tables e below (T22.setTop (mkF m 103 #[.val (.long p0), .second, .val (.long p1), .second, .val (.long p2), .second, .val (.long p3), .second, .val (.long p4), .second, .val (.long 536870923), .second, .val (.long jr0), .second, .val (.long jr1), .second, .val (.long jr2), .second, .val (.long jr3), .second, .val (.long jr4), .second, .val (.ref b9), .val (.ref b11)] [(.ref b9)])) _
    refine X22.arraylength hx (by exact Ar23.1) (State.isArrayOf_alike hZ.alike Ar23.2.1) (g := (mkF m 103 #[.val (.long p0), .second, .val (.long p1), .second, .val (.long p2), .second, .val (.long p3), .second, .val (.long p4), .second, .val (.long 536870923), .second, .val (.long jr0), .second, .val (.long jr1), .second, .val (.long jr2), .second, .val (.long jr3), .second, .val (.long jr4), .second, .val (.ref b9), .val (.ref b11)] [(.ref b9)])) rfl rfl (hb hby at_103) _ ?_
    rw [len_of S23 N23_]
    refine XS.iconst X22.here hx rfl (hb hby at_104) ?_
    refine XS.icmpNo X22.here hx rfl (hb hby at_105) rfl (by decide) ?_
    refine XS.aload X22.here hx rfl (hb hby at_108) rfl rfl ?_
    refine XS.iconst X22.here hx rfl (hb hby at_110) ?_
    show Steps p.tables e below (T22.setTop (mkF m 111 #[.val (.long p0), .second, .val (.long p1), .second, .val (.long p2), .second, .val (.long p3), .second, .val (.long p4), .second, .val (.long 536870923), .second, .val (.long jr0), .second, .val (.long jr1), .second, .val (.long jr2), .second, .val (.long jr3), .second, .val (.long jr4), .second, .val (.ref b9), .val (.ref b11)] [(.int 0), (.ref b9)])) _
    refine X22.laload hx (j := (0 : Int32)) (v := (.long jm0)) (by exact Ar24.1) (State.isArrayOf_alike hZ.alike Ar24.2.1) Ar24.2.2 hin24 hat24 (g := (mkF m 111 #[.val (.long p0), .second, .val (.long p1), .second, .val (.long p2), .second, .val (.long p3), .second, .val (.long p4), .second, .val (.long 536870923), .second, .val (.long jr0), .second, .val (.long jr1), .second, .val (.long jr2), .second, .val (.long jr3), .second, .val (.long jr4), .second, .val (.ref b9), .val (.ref b11)] [(.int 0), (.ref b9)])) rfl rfl (hb hby at_111) _ ?_
    refine XS.lload X22.here hx rfl (hb hby at_112) rfl ?_
    refine XS.lload X22.here hx rfl (hb hby at_114) rfl ?_
    refine XS.lload X22.here hx rfl (hb hby at_116) rfl ?_
    refine XS.lload X22.here hx rfl (hb hby at_118) rfl ?_
    show Steps p.tables e below (T22.setTop (mkF m 120 #[.val (.long p0), .second, .val (.long p1), .second, .val (.long p2), .second, .val (.long p3), .second, .val (.long p4), .second, .val (.long 536870923), .second, .val (.long jr0), .second, .val (.long jr1), .second, .val (.long jr2), .second, .val (.long jr3), .second, .val (.long jr4), .second, .val (.ref b9), .val (.ref b11)] [(.long 536870923), (.long jr2), (.long jr4), (.long jr0), (.long jm0)])) _
    refine st25 _ ?_
    show Steps p.tables e below (T25.setTop (mkF m 123 #[.val (.long p0), .second, .val (.long p1), .second, .val (.long p2), .second, .val (.long p3), .second, .val (.long p4), .second, .val (.long 536870923), .second, .val (.long jr0), .second, .val (.long jr1), .second, .val (.long jr2), .second, .val (.long jr3), .second, .val (.long jr4), .second, .val (.ref b9), .val (.ref b11)] [(.long jx0), (.long jm0)])) _
    refine XS.lcmp X25.here hx rfl (hb hby at_123) rfl ?_
    refine XS.ifNo X25.here hx rfl (hb hby at_124) rfl ((if0 _ _).trans (teq (f15 : (lcmpW jm0 jx0) = (0 : Int32))).2) ?_
    refine XS.aload X25.here hx rfl (hb hby at_127) rfl rfl ?_
    refine XS.iconst X25.here hx rfl (hb hby at_129) ?_
    show Steps p.tables e below (T25.setTop (mkF m 130 #[.val (.long p0), .second, .val (.long p1), .second, .val (.long p2), .second, .val (.long p3), .second, .val (.long p4), .second, .val (.long 536870923), .second, .val (.long jr0), .second, .val (.long jr1), .second, .val (.long jr2), .second, .val (.long jr3), .second, .val (.long jr4), .second, .val (.ref b9), .val (.ref b11)] [(.int 1), (.ref b9)])) _
    refine X25.laload hx (j := (1 : Int32)) (v := (.long jm1)) (by rw [e25]; exact Ar26.1) (State.isArrayOf_alike hZ.alike Ar26.2.1) Ar26.2.2 hin26 hat26 (g := (mkF m 130 #[.val (.long p0), .second, .val (.long p1), .second, .val (.long p2), .second, .val (.long p3), .second, .val (.long p4), .second, .val (.long 536870923), .second, .val (.long jr0), .second, .val (.long jr1), .second, .val (.long jr2), .second, .val (.long jr3), .second, .val (.long jr4), .second, .val (.ref b9), .val (.ref b11)] [(.int 1), (.ref b9)])) rfl rfl (hb hby at_130) _ ?_
    refine XS.lload X25.here hx rfl (hb hby at_131) rfl ?_
    refine XS.lload X25.here hx rfl (hb hby at_133) rfl ?_
    refine XS.lload X25.here hx rfl (hb hby at_135) rfl ?_
    refine XS.lload X25.here hx rfl (hb hby at_137) rfl ?_
    show Steps p.tables e below (T25.setTop (mkF m 139 #[.val (.long p0), .second, .val (.long p1), .second, .val (.long p2), .second, .val (.long p3), .second, .val (.long p4), .second, .val (.long 536870923), .second, .val (.long jr0), .second, .val (.long jr1), .second, .val (.long jr2), .second, .val (.long jr3), .second, .val (.long jr4), .second, .val (.ref b9), .val (.ref b11)] [(.long 536870923), (.long jr3), (.long jr4), (.long jr1), (.long jm1)])) _
    refine st27 _ ?_
    show Steps p.tables e below (T27.setTop (mkF m 142 #[.val (.long p0), .second, .val (.long p1), .second, .val (.long p2), .second, .val (.long p3), .second, .val (.long p4), .second, .val (.long 536870923), .second, .val (.long jr0), .second, .val (.long jr1), .second, .val (.long jr2), .second, .val (.long jr3), .second, .val (.long jr4), .second, .val (.ref b9), .val (.ref b11)] [(.long jx1), (.long jm1)])) _
    refine XS.lcmp X27.here hx rfl (hb hby at_142) rfl ?_
    refine XS.ifNo X27.here hx rfl (hb hby at_143) rfl ((if0 _ _).trans (teq (f20 : (lcmpW jm1 jx1) = (0 : Int32))).2) ?_
    refine XS.aload X27.here hx rfl (hb hby at_146) rfl rfl ?_
    refine XS.iconst X27.here hx rfl (hb hby at_148) ?_
    show Steps p.tables e below (T27.setTop (mkF m 149 #[.val (.long p0), .second, .val (.long p1), .second, .val (.long p2), .second, .val (.long p3), .second, .val (.long p4), .second, .val (.long 536870923), .second, .val (.long jr0), .second, .val (.long jr1), .second, .val (.long jr2), .second, .val (.long jr3), .second, .val (.long jr4), .second, .val (.ref b9), .val (.ref b11)] [(.int 0), (.ref b11)])) _
    refine X27.laload hx (j := (0 : Int32)) (v := (.long jr2)) (by rw [e27]; exact Ar29.1) (State.isArrayOf_alike hZ.alike Ar29.2.1) Ar29.2.2 hin29 hat29 (g := (mkF m 149 #[.val (.long p0), .second, .val (.long p1), .second, .val (.long p2), .second, .val (.long p3), .second, .val (.long p4), .second, .val (.long 536870923), .second, .val (.long jr0), .second, .val (.long jr1), .second, .val (.long jr2), .second, .val (.long jr3), .second, .val (.long jr4), .second, .val (.ref b9), .val (.ref b11)] [(.int 0), (.ref b11)])) rfl rfl (hb hby at_149) _ ?_
    refine XS.lload X27.here hx rfl (hb hby at_150) rfl ?_
    show Steps p.tables e below (T27.setTop (mkF m 152 #[.val (.long p0), .second, .val (.long p1), .second, .val (.long p2), .second, .val (.long p3), .second, .val (.long p4), .second, .val (.long 536870923), .second, .val (.long jr0), .second, .val (.long jr1), .second, .val (.long jr2), .second, .val (.long jr3), .second, .val (.long jr4), .second, .val (.ref b9), .val (.ref b11)] [(.long jr2), (.long jr2)])) _
    refine XS.lcmp X27.here hx rfl (hb hby at_152) rfl ?_
    refine XS.ifNo X27.here hx rfl (hb hby at_153) rfl ((if0 _ _).trans (teq (f21 : (lcmpW jr2 jr2) = (0 : Int32))).2) ?_
    refine XS.aload X27.here hx rfl (hb hby at_156) rfl rfl ?_
    refine XS.iconst X27.here hx rfl (hb hby at_158) ?_
    show Steps p.tables e below (T27.setTop (mkF m 159 #[.val (.long p0), .second, .val (.long p1), .second, .val (.long p2), .second, .val (.long p3), .second, .val (.long p4), .second, .val (.long 536870923), .second, .val (.long jr0), .second, .val (.long jr1), .second, .val (.long jr2), .second, .val (.long jr3), .second, .val (.long jr4), .second, .val (.ref b9), .val (.ref b11)] [(.int 1), (.ref b11)])) _
    refine X27.laload hx (j := (1 : Int32)) (v := (.long jr3)) (by rw [e27]; exact Ar30.1) (State.isArrayOf_alike hZ.alike Ar30.2.1) Ar30.2.2 hin30 hat30 (g := (mkF m 159 #[.val (.long p0), .second, .val (.long p1), .second, .val (.long p2), .second, .val (.long p3), .second, .val (.long p4), .second, .val (.long 536870923), .second, .val (.long jr0), .second, .val (.long jr1), .second, .val (.long jr2), .second, .val (.long jr3), .second, .val (.long jr4), .second, .val (.ref b9), .val (.ref b11)] [(.int 1), (.ref b11)])) rfl rfl (hb hby at_159) _ ?_
    refine XS.lload X27.here hx rfl (hb hby at_160) rfl ?_
    show Steps p.tables e below (T27.setTop (mkF m 162 #[.val (.long p0), .second, .val (.long p1), .second, .val (.long p2), .second, .val (.long p3), .second, .val (.long p4), .second, .val (.long 536870923), .second, .val (.long jr0), .second, .val (.long jr1), .second, .val (.long jr2), .second, .val (.long jr3), .second, .val (.long jr4), .second, .val (.ref b9), .val (.ref b11)] [(.long jr3), (.long jr3)])) _
    refine XS.lcmp X27.here hx rfl (hb hby at_162) rfl ?_
    refine XS.ifNo X27.here hx rfl (hb hby at_163) rfl ((if0 _ _).trans (teq (f22 : (lcmpW jr3 jr3) = (0 : Int32))).2) ?_
    refine XS.iconst X27.here hx rfl (hb hby at_166) ?_
    refine XS.goto X27.here hx rfl (pc0 := 167) (pc' := 171) rfl (hb hby at_167) (by decide) (by decide) ?_
    show Steps p.tables e below (T27.setTop (mkF m 171 #[.val (.long p0), .second, .val (.long p1), .second, .val (.long p2), .second, .val (.long p3), .second, .val (.long p4), .second, .val (.long 536870923), .second, .val (.long jr0), .second, .val (.long jr1), .second, .val (.long jr2), .second, .val (.long jr3), .second, .val (.long jr4), .second, .val (.ref b9), .val (.ref b11)] [(.int 1)])) _
    exact retN X27 hx (t := .boolean) Bd.returns (by simp) (hb hby at_171) hr
  · show QT n0 _ T27.heap _
    rw [e27]
    exact ⟨rfl, N27⟩
set_option maxRecDepth 65536 in
set_option maxHeartbeats 40000000 in
theorem rm0_22 (l : Launch) (Z : State) (a0 : Array Value) (hw : ∀ d ∈ tables_1, d.before a0 Z = true) (ws : List Jvm.Cond) (p0 : Int64) (p1 : Int64) (p2 : Int64) (p3 : Int64) (p4 : Int64) (jr0 : Int64) (jr1 : Int64) (jr2 : Int64) (jr3 : Int64) (jr4 : Int64) (jnf : Int64) (jm0 : Int64) (jm1 : Int64) (jt0 : Int64) (jd0 : Int64) (jx0 : Int64) (jt1 : Int64) (jd1 : Int64) (h0 : Heap) (n0 : Nat) (Z0 : n0 ≤ h0.size) (f1 : S_0 Z h0 (.long 536870923)) (f2 : ((p0 &&& (9223372036854775807 : Int64)) % (536870923 : Int64)) = jr0) (f3 : ((p1 &&& (9223372036854775807 : Int64)) % (536870923 : Int64)) = jr1) (f4 : ((p2 &&& (9223372036854775807 : Int64)) % (536870923 : Int64)) = jr2) (f5 : ((p3 &&& (9223372036854775807 : Int64)) % (536870923 : Int64)) = jr3) (f6 : ((p4 &&& (9223372036854775807 : Int64)) % (536870923 : Int64)) = jr4) (f7 : ¬ ((lcmpW jr4 (0 : Int64)) = (0 : Int32))) (f8 : ((536870923 : Int64) - jr4) = jnf) (f9 : ((jr0 + (jnf * jr2)) % (536870923 : Int64)) = jm0) (f10 : ((jr1 + (jnf * jr3)) % (536870923 : Int64)) = jm1) (f11 : ((jr4 * jr2) % (536870923 : Int64)) = jt0) (f12 : (jr0 - jt0) = jd0) (f13 : (lcmpW jd0 (0 : Int64)) < (0 : Int32)) (f14 : (jd0 + (536870923 : Int64)) = jx0) (f15 : (lcmpW jm0 jx0) = (0 : Int32)) (f16 : ((jr4 * jr3) % (536870923 : Int64)) = jt1) (f17 : (jr1 - jt1) = jd1) (f18 : ¬ ((lcmpW jd1 (0 : Int64)) < (0 : Int32))) (f19 : (lcmpW jm1 jd1) = (0 : Int32)) (f20 : (lcmpW jr2 jr2) = (0 : Int32)) (f21 : (lcmpW jr3 jr3) = (0 : Int32)) :
    MetFree l x (head1 (Jvm.Cond.code x code maxLocals ret :: ws) room_1) (fun a U => a = #[(.long p0), (.long p1), (.long p2), (.long p3), (.long p4)] ∧ Z.Warmed39 U.vm ∧ U.heap = h0) (fun _ _ _ _ _ => True) (fun _ U o U' => ∃ v L, o = .returned v ∧ QT n0 v U'.heap L ∧ FrameEnd U o U' L room_1.cells room_1.slots) := by
  refine MetFree.of_bodySF (plainFor_of_name pn_com_example_subsumption_subsumption_SquareSystemSubtractTimesPinLaw) hisR ?_
  intro p e s m args below meth c s₁ Bd hml0 hP hK
  obtain ⟨rfl, hZ, hh⟩ := hP
  have hx := Bd.exec
  have hby := Bd.bytes
  have hml : c.maxLocals = 24 := hml0
  have hown : s.vm.findClass "com/example/subsumption/subsumption/SquareSystemSubtractTimesPinLaw" = some m.cls := findClass_of_methodNamed Bd.named
  have hnm := (name_of_methodNamed Bd.named Bd.method).1
  have X0 : Stand p l e room_1 s m #[(.long p0), (.long p1), (.long p2), (.long p3), (.long p4)] below meth c s₁ [] 0 0 := Stand.of_body Bd
  have e0 : s₁.heap = h0 := by rw [← hh, Bd.state]; rfl
  have N0 := Fr.nil n0
  obtain ⟨T1, X1, e1, st1⟩ := getS2 X0 hx hZ hown (host := "") (Or.inl (tw_0 hw)) Via.refl e0 f1 (g := (mkF m 0 #[.val (.long p0), .second, .val (.long p1), .second, .val (.long p2), .second, .val (.long p3), .second, .val (.long p4), .second, .unset, .unset, .unset, .unset, .unset, .unset, .unset, .unset, .unset, .unset, .unset, .unset, .unset, .unset] [])) rfl (hb hby at_0)
  obtain ⟨T2, h2, k2, X2, e2, E2, A2, st2⟩ := newP X1 hx hZ (aty := .long) (tw_4 hw) e1 (g := (mkF m 59 #[.val (.long p0), .second, .val (.long p1), .second, .val (.long p2), .second, .val (.long p3), .second, .val (.long p4), .second, .val (.long 536870923), .second, .val (.long jr0), .second, .val (.long jr1), .second, .val (.long jr2), .second, .val (.long jr3), .second, .val (.long jr4), .second, .unset, .unset] [(.int 2)])) rfl (hb hby at_59) rfl (by decide : ¬ ((2 : Int32) < (0 : Int32))) (cap := 2) (by decide : (2 : Int32).toNatClampNeg ≤ 2) (by decide) (by decide) (by decide)
  obtain ⟨b18, g2⟩ : ∃ z, z = h0.size := ⟨_, rfl⟩
  rw [← g2] at A2 st2
  obtain ⟨kc19, gk2⟩ : ∃ z, z = k2 := ⟨_, rfl⟩
  rw [← gk2] at A2
  have sz_b18 : h0.size ≤ b18 := Nat.le_trans (Nat.le_refl _) (Nat.le_of_eq g2.symm)
  have g_b18 : n0 ≤ b18 := Nat.le_trans Z0 sz_b18
  have KK2 : Keep h0 h2 [] := (Keep.refl h0 []).ext E2
  have V2 : Arv Z h2 b18 kc19 .long (2 : Int32) [(.long 0), (.long 0)] (.long 0) := (Arv.new A2 (by decide)).pad (pad_rep [] (.long 0) 2)
  have va3 := V2
  obtain ⟨cl3, Ar3, q3, S3, N3_, H3, G3⟩ := va3
  have hin3 : ¬ ((0 : Int32) < 0 ∨ cl3.slots.size ≤ ((0 : Int32)).toNatClampNeg) := inb_of S3 ⟨by decide, by decide⟩
  obtain ⟨T4, h4, X4, e4, W4, st4⟩ := stJ X2 hx hZ e2 Ar3 (j := (0 : Int32)) hin3 (g := (mkF m 68 #[.val (.long p0), .second, .val (.long p1), .second, .val (.long p2), .second, .val (.long p3), .second, .val (.long p4), .second, .val (.long 536870923), .second, .val (.long jr0), .second, .val (.long jr1), .second, .val (.long jr2), .second, .val (.long jr3), .second, .val (.long jr4), .second, .val (.ref b18), .unset] [(.long jr0), (.int 0), (.ref b18)])) rfl rfl (hb hby at_68)
  have Vw4 : Arv Z h4 b18 kc19 .long (2 : Int32) [(.long jr0), (.long 0)] (.long 0) := Arv.set Ar3 q3 S3 N3_ H3 G3 rfl W4 0 rfl (Nat.le_of_ble_eq_true rfl)
  have KK4 : Keep h0 h4 [] := KK2.wr W4 (Or.inr sz_b18)
  have N4 := Fr.snoc X4 N0 g_b18
  have va5 := Vw4
  obtain ⟨cl5, Ar5, q5, S5, N5_, H5, G5⟩ := va5
  have hin5 : ¬ ((1 : Int32) < 0 ∨ cl5.slots.size ≤ ((1 : Int32)).toNatClampNeg) := inb_of S5 ⟨by decide, by decide⟩
  obtain ⟨T6, h6, X6, e6, W6, st6⟩ := stJ X4 hx hZ e4 Ar5 (j := (1 : Int32)) hin5 (g := (mkF m 74 #[.val (.long p0), .second, .val (.long p1), .second, .val (.long p2), .second, .val (.long p3), .second, .val (.long p4), .second, .val (.long 536870923), .second, .val (.long jr0), .second, .val (.long jr1), .second, .val (.long jr2), .second, .val (.long jr3), .second, .val (.long jr4), .second, .val (.ref b18), .unset] [(.long jr1), (.int 1), (.ref b18)])) rfl rfl (hb hby at_74)
  have Vw6 : Arv Z h6 b18 kc19 .long (2 : Int32) [(.long jr0), (.long jr1)] (.long 0) := Arv.set Ar5 q5 S5 N5_ H5 G5 rfl W6 1 rfl (Nat.le_of_ble_eq_true rfl)
  have KK6 : Keep h0 h6 [] := KK4.wr W6 (Or.inr sz_b18)
  have N6 := Fr.snoc X6 N4 g_b18
  obtain ⟨T7, h7, k7, X7, e7, E7, A7, st7⟩ := newP X6 hx hZ (aty := .long) (tw_4 hw) e6 (g := (mkF m 76 #[.val (.long p0), .second, .val (.long p1), .second, .val (.long p2), .second, .val (.long p3), .second, .val (.long p4), .second, .val (.long 536870923), .second, .val (.long jr0), .second, .val (.long jr1), .second, .val (.long jr2), .second, .val (.long jr3), .second, .val (.long jr4), .second, .val (.ref b18), .unset] [(.int 2)])) rfl (hb hby at_76) rfl (by decide : ¬ ((2 : Int32) < (0 : Int32))) (cap := 2) (by decide : (2 : Int32).toNatClampNeg ≤ 2) (by decide) (by decide) (by decide)
  obtain ⟨b20, g7⟩ : ∃ z, z = h6.size := ⟨_, rfl⟩
  rw [← g7] at A7 st7
  obtain ⟨kc21, gk7⟩ : ∃ z, z = k7 := ⟨_, rfl⟩
  rw [← gk7] at A7
  have sz_b20 : h0.size ≤ b20 := Nat.le_trans KK6.1 (Nat.le_of_eq g7.symm)
  have g_b20 : n0 ≤ b20 := Nat.le_trans Z0 sz_b20
  have KK7 : Keep h0 h7 [] := KK6.ext E7
  have V7 : Arv Z h7 b20 kc21 .long (2 : Int32) [(.long 0), (.long 0)] (.long 0) := (Arv.new A7 (by decide)).pad (pad_rep [] (.long 0) 2)
  have va8 := V7
  obtain ⟨cl8, Ar8, q8, S8, N8_, H8, G8⟩ := va8
  have hin8 : ¬ ((0 : Int32) < 0 ∨ cl8.slots.size ≤ ((0 : Int32)).toNatClampNeg) := inb_of S8 ⟨by decide, by decide⟩
  obtain ⟨T9, h9, X9, e9, W9, st9⟩ := stJ X7 hx hZ e7 Ar8 (j := (0 : Int32)) hin8 (g := (mkF m 85 #[.val (.long p0), .second, .val (.long p1), .second, .val (.long p2), .second, .val (.long p3), .second, .val (.long p4), .second, .val (.long 536870923), .second, .val (.long jr0), .second, .val (.long jr1), .second, .val (.long jr2), .second, .val (.long jr3), .second, .val (.long jr4), .second, .val (.ref b18), .val (.ref b20)] [(.long jr2), (.int 0), (.ref b20)])) rfl rfl (hb hby at_85)
  have Vw9 : Arv Z h9 b20 kc21 .long (2 : Int32) [(.long jr2), (.long 0)] (.long 0) := Arv.set Ar8 q8 S8 N8_ H8 G8 rfl W9 0 rfl (Nat.le_of_ble_eq_true rfl)
  have KK9 : Keep h0 h9 [] := KK7.wr W9 (Or.inr sz_b20)
  have N9 := Fr.snoc X9 N6 g_b20
  have va10 := Vw9
  obtain ⟨cl10, Ar10, q10, S10, N10_, H10, G10⟩ := va10
  have hin10 : ¬ ((1 : Int32) < 0 ∨ cl10.slots.size ≤ ((1 : Int32)).toNatClampNeg) := inb_of S10 ⟨by decide, by decide⟩
  obtain ⟨T11, h11, X11, e11, W11, st11⟩ := stJ X9 hx hZ e9 Ar10 (j := (1 : Int32)) hin10 (g := (mkF m 91 #[.val (.long p0), .second, .val (.long p1), .second, .val (.long p2), .second, .val (.long p3), .second, .val (.long p4), .second, .val (.long 536870923), .second, .val (.long jr0), .second, .val (.long jr1), .second, .val (.long jr2), .second, .val (.long jr3), .second, .val (.long jr4), .second, .val (.ref b18), .val (.ref b20)] [(.long jr3), (.int 1), (.ref b20)])) rfl rfl (hb hby at_91)
  have Vw11 : Arv Z h11 b20 kc21 .long (2 : Int32) [(.long jr2), (.long jr3)] (.long 0) := Arv.set Ar10 q10 S10 N10_ H10 G10 rfl W11 1 rfl (Nat.le_of_ble_eq_true rfl)
  have KK11 : Keep h0 h11 [] := KK9.wr W11 (Or.inr sz_b20)
  have N11 := Fr.snoc X11 N9 g_b20
  -- pc 98: com/example/subsumption/subsumption/SquareSystem.subtractTimes
  have u12 : S_0 Z h2 (.long 536870923) := Sta.ext E2 f1
  have u13 : S_0 Z h4 (.long 536870923) := Sta.wr W4 u12
  have u14 : S_0 Z h6 (.long 536870923) := Sta.wr W6 u13
  have u15 : S_0 Z h7 (.long 536870923) := Sta.ext E7 u14
  have u16 : S_0 Z h9 (.long 536870923) := Sta.wr W9 u15
  have u17 : S_0 Z h11 (.long 536870923) := Sta.wr W11 u16
  have u18 : Arv Z h7 b18 kc19 .long (2 : Int32) [(.long jr0), (.long jr1)] (.long 0) := Arv.ext Vw6 E7
  have ne19 : b18 ≠ b20 := Nat.ne_of_lt (Nat.lt_of_lt_of_le (Arv.lt Vw6) (Nat.le_of_eq g7.symm))
  have u20 : Arv Z h9 b18 kc19 .long (2 : Int32) [(.long jr0), (.long jr1)] (.long 0) := Arv.other u18 W9 ne19
  have u21 : Arv Z h11 b18 kc19 .long (2 : Int32) [(.long jr0), (.long jr1)] (.long 0) := Arv.other u20 W11 ne19
  obtain ⟨_, _, ⟨T22, L22, k22, n22⟩, -, X22, ⟨Lc22, hQ22, l22, y22, z22⟩, st22⟩ := Jvm.LawKit.callS X11 hx (y := M_0) hown (mvT hZ (tw_5 hw)) (mvT hZ (tw_6 hw)) (mvT hZ (tw_1 hw)) (mvT hZ (tw_7 hw)) (by decide) (backOf (W := 0) (rm1_13 l Z a0 hw [] b18 jr4 b20 jnf kc19 jr0 jr1 kc21 jr2 jr3 jm0 jm1 h11 n0 (Nat.le_trans Z0 KK11.1) f7 u17 f8 u21 Vw11 f9 g_b18 (Ne.symm ne19) f10) hZ (tw_7 hw) (tw_1 hw) (by decide) (by decide)) (g := (mkF m 98 #[.val (.long p0), .second, .val (.long p1), .second, .val (.long p2), .second, .val (.long p3), .second, .val (.long p4), .second, .val (.long 536870923), .second, .val (.long jr0), .second, .val (.long jr1), .second, .val (.long jr2), .second, .val (.long jr3), .second, .val (.long jr4), .second, .val (.ref b18), .val (.ref b20)] [(.ref b20), (.long jr4), (.ref b18)])) rfl (by rw [hml]; rfl) (argsL := [(.ref b18), (.long jr4), (.ref b20)]) (rest := []) (lenOf pd_0 rfl) rfl (by show 2 * 0 + _ ≤ _; exact Nat.le_of_eq rfl) (hb hby at_98) (fun _ _ => ⟨rfl, e11, (by decide : 2 + 0 ≤ _), (by decide : 4 + 0 ≤ _)⟩)
  dsimp only [Pt.U, Pt.locs, Pt.cells, Pt.slots] at X22 l22 y22 z22 st22 hQ22
  subst l22 y22 z22
  obtain ⟨rfl, Nq22, K22, o22_0⟩ := hQ22
  have N22 := Fr.app N11 Nq22
  have KK22 : Keep h0 T22.heap [] := KK11.trans K22 (fun x hx => (List.mem_cons.mp hx).elim (fun q => q ▸ (Or.inr sz_b18)) (fun hx => nomatch hx))
  have va23 := o22_0
  obtain ⟨cl23, Ar23, -, S23, N23_, -, -⟩ := va23
  have va24 := o22_0
  obtain ⟨cl24, Ar24, -, S24, -, H24, -⟩ := va24
  have hin24 : ¬ ((0 : Int32) < 0 ∨ cl24.slots.size ≤ ((0 : Int32)).toNatClampNeg) := inb_of S24 ⟨by decide, by decide⟩
  have hat24 : cl24.slots[((0 : Int32)).toNatClampNeg]? = some (.long jm0) := H24 _ (Nat.lt_of_not_le fun y => hin24 (Or.inr y))
  -- pc 120: com/example/subsumption/subsumption/SquareSystemSubtractTimesPinLaw.expected
  obtain ⟨_, _, ⟨T25, L25, k25, n25⟩, -, X25, ⟨Lc25, hQ25, l25, y25, z25⟩, st25⟩ := Jvm.LawKit.callS X22 hx (y := M_1) hown (mvT hZ (tw_8 hw)) (mvT hZ (tw_9 hw)) (mvT hZ (tw_10 hw)) (mvT hZ (tw_11 hw)) (by decide) (backOf (W := 2) (rm2_15 l Z a0 hw [] jr0 jr4 jr2 jt0 jd0 jx0 T22.heap n0 (Nat.le_trans Z0 KK22.1) f11 f12 f13 f14) hZ (tw_11 hw) (tw_10 hw) (by decide) (by decide)) (g := (mkF m 120 #[.val (.long p0), .second, .val (.long p1), .second, .val (.long p2), .second, .val (.long p3), .second, .val (.long p4), .second, .val (.long 536870923), .second, .val (.long jr0), .second, .val (.long jr1), .second, .val (.long jr2), .second, .val (.long jr3), .second, .val (.long jr4), .second, .val (.ref b18), .val (.ref b20)] [(.long 536870923), (.long jr2), (.long jr4), (.long jr0), (.long jm0)])) rfl (by rw [hml]; rfl) (argsL := [(.long jr0), (.long jr4), (.long jr2), (.long 536870923)]) (rest := [(.long jm0)]) (lenOf pd_1 rfl) rfl (by show 2 * 0 + _ ≤ _; exact Nat.le_of_eq rfl) (hb hby at_120) (fun _ _ => ⟨rfl, rfl, (by decide : 2 + 0 ≤ _), (by decide : 4 + 0 ≤ _)⟩)
  dsimp only [Pt.U, Pt.locs, Pt.cells, Pt.slots] at X25 l25 y25 z25 st25 hQ25
  subst l25 y25 z25
  obtain ⟨rfl, Nq25, e25⟩ := hQ25
  have N25 := Fr.app N22 Nq25
  have va26 := o22_0
  obtain ⟨cl26, Ar26, -, S26, -, H26, -⟩ := va26
  have hin26 : ¬ ((1 : Int32) < 0 ∨ cl26.slots.size ≤ ((1 : Int32)).toNatClampNeg) := inb_of S26 ⟨by decide, by decide⟩
  have hat26 : cl26.slots[((1 : Int32)).toNatClampNeg]? = some (.long jm1) := H26 _ (Nat.lt_of_not_le fun y => hin26 (Or.inr y))
  -- pc 139: com/example/subsumption/subsumption/SquareSystemSubtractTimesPinLaw.expected
  obtain ⟨_, _, ⟨T27, L27, k27, n27⟩, -, X27, ⟨Lc27, hQ27, l27, y27, z27⟩, st27⟩ := Jvm.LawKit.callS X25 hx (y := M_1) hown (mvT hZ (tw_8 hw)) (mvT hZ (tw_9 hw)) (mvT hZ (tw_10 hw)) (mvT hZ (tw_11 hw)) (by decide) (backOf (W := 2) (rm2_7 l Z a0 hw [] jr1 jr4 jr3 jt1 jd1 T22.heap n0 (Nat.le_trans Z0 KK22.1) f16 f17 f18) hZ (tw_11 hw) (tw_10 hw) (by decide) (by decide)) (g := (mkF m 139 #[.val (.long p0), .second, .val (.long p1), .second, .val (.long p2), .second, .val (.long p3), .second, .val (.long p4), .second, .val (.long 536870923), .second, .val (.long jr0), .second, .val (.long jr1), .second, .val (.long jr2), .second, .val (.long jr3), .second, .val (.long jr4), .second, .val (.ref b18), .val (.ref b20)] [(.long 536870923), (.long jr3), (.long jr4), (.long jr1), (.long jm1)])) rfl (by rw [hml]; rfl) (argsL := [(.long jr1), (.long jr4), (.long jr3), (.long 536870923)]) (rest := [(.long jm1)]) (lenOf pd_1 rfl) rfl (by show 2 * 0 + _ ≤ _; exact Nat.le_of_eq rfl) (hb hby at_139) (fun _ _ => ⟨rfl, e25, (by decide : 2 + 0 ≤ _), (by decide : 4 + 0 ≤ _)⟩)
  dsimp only [Pt.U, Pt.locs, Pt.cells, Pt.slots] at X27 l27 y27 z27 st27 hQ27
  subst l27 y27 z27
  obtain ⟨rfl, Nq27, e27⟩ := hQ27
  have N27 := Fr.app N25 Nq27
  have u28 : Arv Z T22.heap b20 kc21 .long (2 : Int32) [(.long jr2), (.long jr3)] (.long 0) := Arv.keep Vw11 K22 (own_notin (Ne.symm ne19) List.not_mem_nil)
  have va29 := u28
  obtain ⟨cl29, Ar29, -, S29, -, H29, -⟩ := va29
  have hin29 : ¬ ((0 : Int32) < 0 ∨ cl29.slots.size ≤ ((0 : Int32)).toNatClampNeg) := inb_of S29 ⟨by decide, by decide⟩
  have hat29 : cl29.slots[((0 : Int32)).toNatClampNeg]? = some (.long jr2) := H29 _ (Nat.lt_of_not_le fun y => hin29 (Or.inr y))
  have va30 := u28
  obtain ⟨cl30, Ar30, -, S30, -, H30, -⟩ := va30
  have hin30 : ¬ ((1 : Int32) < 0 ∨ cl30.slots.size ≤ ((1 : Int32)).toNatClampNeg) := inb_of S30 ⟨by decide, by decide⟩
  have hat30 : cl30.slots[((1 : Int32)).toNatClampNeg]? = some (.long jr3) := H30 _ (Nat.lt_of_not_le fun y => hin30 (Or.inr y))
  obtain ⟨fs, hr, hrun, hended, hW, hsame⟩ := X27.leave (v := (some (.int 1))) (fun h => by rw [Bd.returns] at h; cases h)
  refine ⟨_, _, castTop (ef0_JJJJJ m p0 p1 p2 p3 p4) ?_, hrun, hended, _, _, rfl, ?_, ⟨_, rfl⟩, hW, hsame.mono (by decide) (by decide)⟩
  · show Steps p.tables e below (s₁.setTop (mkF m 0 #[.val (.long p0), .second, .val (.long p1), .second, .val (.long p2), .second, .val (.long p3), .second, .val (.long p4), .second, .unset, .unset, .unset, .unset, .unset, .unset, .unset, .unset, .unset, .unset, .unset, .unset, .unset, .unset] [])) _
    refine st1 _ ?_
    refine XS.lstore X1.here hx rfl (hb hby at_3) rfl (l' := #[.val (.long p0), .second, .val (.long p1), .second, .val (.long p2), .second, .val (.long p3), .second, .val (.long p4), .second, .val (.long 536870923), .second, .unset, .unset, .unset, .unset, .unset, .unset, .unset, .unset, .unset, .unset, .unset, .unset]) rfl ?_
    refine XS.lloadN X1.here hx rfl (hb hby at_5) rfl ?_
    show Steps p.tables e below (T1.setTop (mkF m 6 #[.val (.long p0), .second, .val (.long p1), .second, .val (.long p2), .second, .val (.long p3), .second, .val (.long p4), .second, .val (.long 536870923), .second, .unset, .unset, .unset, .unset, .unset, .unset, .unset, .unset, .unset, .unset, .unset, .unset] [(.long p0)])) _
    refine X1.ldc2Long hx hown (mvT hZ (tw_3 hw)) (g := (mkF m 6 #[.val (.long p0), .second, .val (.long p1), .second, .val (.long p2), .second, .val (.long p3), .second, .val (.long p4), .second, .val (.long 536870923), .second, .unset, .unset, .unset, .unset, .unset, .unset, .unset, .unset, .unset, .unset, .unset, .unset] [(.long p0)])) rfl (hb hby at_6) _ ?_
    show Steps p.tables e below (T1.setTop (mkF m 9 #[.val (.long p0), .second, .val (.long p1), .second, .val (.long p2), .second, .val (.long p3), .second, .val (.long p4), .second, .val (.long 536870923), .second, .unset, .unset, .unset, .unset, .unset, .unset, .unset, .unset, .unset, .unset, .unset, .unset] [(.long 9223372036854775807), (.long p0)])) _
    refine XS.land X1.here hx rfl (hb hby at_9) rfl ?_
    refine XS.lload X1.here hx rfl (hb hby at_10) rfl ?_
    show Steps p.tables e below (T1.setTop (mkF m 12 #[.val (.long p0), .second, .val (.long p1), .second, .val (.long p2), .second, .val (.long p3), .second, .val (.long p4), .second, .val (.long 536870923), .second, .unset, .unset, .unset, .unset, .unset, .unset, .unset, .unset, .unset, .unset, .unset, .unset] [(.long 536870923), (.long (p0 &&& (9223372036854775807 : Int64)))])) _
    refine own_lremM X1 hx rfl (hb hby at_12) rfl (by decide) ?_
    show Steps p.tables e below (T1.setTop (mkF m 13 #[.val (.long p0), .second, .val (.long p1), .second, .val (.long p2), .second, .val (.long p3), .second, .val (.long p4), .second, .val (.long 536870923), .second, .unset, .unset, .unset, .unset, .unset, .unset, .unset, .unset, .unset, .unset, .unset, .unset] [(.long ((p0 &&& (9223372036854775807 : Int64)) % (536870923 : Int64)))])) _
    rw [f2]
    refine XS.lstore X1.here hx rfl (hb hby at_13) rfl (l' := #[.val (.long p0), .second, .val (.long p1), .second, .val (.long p2), .second, .val (.long p3), .second, .val (.long p4), .second, .val (.long 536870923), .second, .val (.long jr0), .second, .unset, .unset, .unset, .unset, .unset, .unset, .unset, .unset, .unset, .unset]) rfl ?_
    refine XS.lloadN X1.here hx rfl (hb hby at_15) rfl ?_
    show Steps p.tables e below (T1.setTop (mkF m 16 #[.val (.long p0), .second, .val (.long p1), .second, .val (.long p2), .second, .val (.long p3), .second, .val (.long p4), .second, .val (.long 536870923), .second, .val (.long jr0), .second, .unset, .unset, .unset, .unset, .unset, .unset, .unset, .unset, .unset, .unset] [(.long p1)])) _
    refine X1.ldc2Long hx hown (mvT hZ (tw_3 hw)) (g := (mkF m 16 #[.val (.long p0), .second, .val (.long p1), .second, .val (.long p2), .second, .val (.long p3), .second, .val (.long p4), .second, .val (.long 536870923), .second, .val (.long jr0), .second, .unset, .unset, .unset, .unset, .unset, .unset, .unset, .unset, .unset, .unset] [(.long p1)])) rfl (hb hby at_16) _ ?_
    show Steps p.tables e below (T1.setTop (mkF m 19 #[.val (.long p0), .second, .val (.long p1), .second, .val (.long p2), .second, .val (.long p3), .second, .val (.long p4), .second, .val (.long 536870923), .second, .val (.long jr0), .second, .unset, .unset, .unset, .unset, .unset, .unset, .unset, .unset, .unset, .unset] [(.long 9223372036854775807), (.long p1)])) _
    refine XS.land X1.here hx rfl (hb hby at_19) rfl ?_
    refine XS.lload X1.here hx rfl (hb hby at_20) rfl ?_
    show Steps p.tables e below (T1.setTop (mkF m 22 #[.val (.long p0), .second, .val (.long p1), .second, .val (.long p2), .second, .val (.long p3), .second, .val (.long p4), .second, .val (.long 536870923), .second, .val (.long jr0), .second, .unset, .unset, .unset, .unset, .unset, .unset, .unset, .unset, .unset, .unset] [(.long 536870923), (.long (p1 &&& (9223372036854775807 : Int64)))])) _
    refine own_lremM X1 hx rfl (hb hby at_22) rfl (by decide) ?_
    show Steps p.tables e below (T1.setTop (mkF m 23 #[.val (.long p0), .second, .val (.long p1), .second, .val (.long p2), .second, .val (.long p3), .second, .val (.long p4), .second, .val (.long 536870923), .second, .val (.long jr0), .second, .unset, .unset, .unset, .unset, .unset, .unset, .unset, .unset, .unset, .unset] [(.long ((p1 &&& (9223372036854775807 : Int64)) % (536870923 : Int64)))])) _
    rw [f3]
    refine XS.lstore X1.here hx rfl (hb hby at_23) rfl (l' := #[.val (.long p0), .second, .val (.long p1), .second, .val (.long p2), .second, .val (.long p3), .second, .val (.long p4), .second, .val (.long 536870923), .second, .val (.long jr0), .second, .val (.long jr1), .second, .unset, .unset, .unset, .unset, .unset, .unset, .unset, .unset]) rfl ?_
    refine XS.lload X1.here hx rfl (hb hby at_25) rfl ?_
    show Steps p.tables e below (T1.setTop (mkF m 27 #[.val (.long p0), .second, .val (.long p1), .second, .val (.long p2), .second, .val (.long p3), .second, .val (.long p4), .second, .val (.long 536870923), .second, .val (.long jr0), .second, .val (.long jr1), .second, .unset, .unset, .unset, .unset, .unset, .unset, .unset, .unset] [(.long p2)])) _
    refine X1.ldc2Long hx hown (mvT hZ (tw_3 hw)) (g := (mkF m 27 #[.val (.long p0), .second, .val (.long p1), .second, .val (.long p2), .second, .val (.long p3), .second, .val (.long p4), .second, .val (.long 536870923), .second, .val (.long jr0), .second, .val (.long jr1), .second, .unset, .unset, .unset, .unset, .unset, .unset, .unset, .unset] [(.long p2)])) rfl (hb hby at_27) _ ?_
    show Steps p.tables e below (T1.setTop (mkF m 30 #[.val (.long p0), .second, .val (.long p1), .second, .val (.long p2), .second, .val (.long p3), .second, .val (.long p4), .second, .val (.long 536870923), .second, .val (.long jr0), .second, .val (.long jr1), .second, .unset, .unset, .unset, .unset, .unset, .unset, .unset, .unset] [(.long 9223372036854775807), (.long p2)])) _
    refine XS.land X1.here hx rfl (hb hby at_30) rfl ?_
    refine XS.lload X1.here hx rfl (hb hby at_31) rfl ?_
    show Steps p.tables e below (T1.setTop (mkF m 33 #[.val (.long p0), .second, .val (.long p1), .second, .val (.long p2), .second, .val (.long p3), .second, .val (.long p4), .second, .val (.long 536870923), .second, .val (.long jr0), .second, .val (.long jr1), .second, .unset, .unset, .unset, .unset, .unset, .unset, .unset, .unset] [(.long 536870923), (.long (p2 &&& (9223372036854775807 : Int64)))])) _
    refine own_lremM X1 hx rfl (hb hby at_33) rfl (by decide) ?_
    show Steps p.tables e below (T1.setTop (mkF m 34 #[.val (.long p0), .second, .val (.long p1), .second, .val (.long p2), .second, .val (.long p3), .second, .val (.long p4), .second, .val (.long 536870923), .second, .val (.long jr0), .second, .val (.long jr1), .second, .unset, .unset, .unset, .unset, .unset, .unset, .unset, .unset] [(.long ((p2 &&& (9223372036854775807 : Int64)) % (536870923 : Int64)))])) _
    rw [f4]
    refine XS.lstore X1.here hx rfl (hb hby at_34) rfl (l' := #[.val (.long p0), .second, .val (.long p1), .second, .val (.long p2), .second, .val (.long p3), .second, .val (.long p4), .second, .val (.long 536870923), .second, .val (.long jr0), .second, .val (.long jr1), .second, .val (.long jr2), .second, .unset, .unset, .unset, .unset, .unset, .unset]) rfl ?_
    refine XS.lload X1.here hx rfl (hb hby at_36) rfl ?_
    show Steps p.tables e below (T1.setTop (mkF m 38 #[.val (.long p0), .second, .val (.long p1), .second, .val (.long p2), .second, .val (.long p3), .second, .val (.long p4), .second, .val (.long 536870923), .second, .val (.long jr0), .second, .val (.long jr1), .second, .val (.long jr2), .second, .unset, .unset, .unset, .unset, .unset, .unset] [(.long p3)])) _
    refine X1.ldc2Long hx hown (mvT hZ (tw_3 hw)) (g := (mkF m 38 #[.val (.long p0), .second, .val (.long p1), .second, .val (.long p2), .second, .val (.long p3), .second, .val (.long p4), .second, .val (.long 536870923), .second, .val (.long jr0), .second, .val (.long jr1), .second, .val (.long jr2), .second, .unset, .unset, .unset, .unset, .unset, .unset] [(.long p3)])) rfl (hb hby at_38) _ ?_
    show Steps p.tables e below (T1.setTop (mkF m 41 #[.val (.long p0), .second, .val (.long p1), .second, .val (.long p2), .second, .val (.long p3), .second, .val (.long p4), .second, .val (.long 536870923), .second, .val (.long jr0), .second, .val (.long jr1), .second, .val (.long jr2), .second, .unset, .unset, .unset, .unset, .unset, .unset] [(.long 9223372036854775807), (.long p3)])) _
    refine XS.land X1.here hx rfl (hb hby at_41) rfl ?_
    refine XS.lload X1.here hx rfl (hb hby at_42) rfl ?_
    show Steps p.tables e below (T1.setTop (mkF m 44 #[.val (.long p0), .second, .val (.long p1), .second, .val (.long p2), .second, .val (.long p3), .second, .val (.long p4), .second, .val (.long 536870923), .second, .val (.long jr0), .second, .val (.long jr1), .second, .val (.long jr2), .second, .unset, .unset, .unset, .unset, .unset, .unset] [(.long 536870923), (.long (p3 &&& (9223372036854775807 : Int64)))])) _
    refine own_lremM X1 hx rfl (hb hby at_44) rfl (by decide) ?_
    show Steps p.tables e below (T1.setTop (mkF m 45 #[.val (.long p0), .second, .val (.long p1), .second, .val (.long p2), .second, .val (.long p3), .second, .val (.long p4), .second, .val (.long 536870923), .second, .val (.long jr0), .second, .val (.long jr1), .second, .val (.long jr2), .second, .unset, .unset, .unset, .unset, .unset, .unset] [(.long ((p3 &&& (9223372036854775807 : Int64)) % (536870923 : Int64)))])) _
    rw [f5]
    refine XS.lstore X1.here hx rfl (hb hby at_45) rfl (l' := #[.val (.long p0), .second, .val (.long p1), .second, .val (.long p2), .second, .val (.long p3), .second, .val (.long p4), .second, .val (.long 536870923), .second, .val (.long jr0), .second, .val (.long jr1), .second, .val (.long jr2), .second, .val (.long jr3), .second, .unset, .unset, .unset, .unset]) rfl ?_
    refine XS.lload X1.here hx rfl (hb hby at_47) rfl ?_
    show Steps p.tables e below (T1.setTop (mkF m 49 #[.val (.long p0), .second, .val (.long p1), .second, .val (.long p2), .second, .val (.long p3), .second, .val (.long p4), .second, .val (.long 536870923), .second, .val (.long jr0), .second, .val (.long jr1), .second, .val (.long jr2), .second, .val (.long jr3), .second, .unset, .unset, .unset, .unset] [(.long p4)])) _
    refine X1.ldc2Long hx hown (mvT hZ (tw_3 hw)) (g := (mkF m 49 #[.val (.long p0), .second, .val (.long p1), .second, .val (.long p2), .second, .val (.long p3), .second, .val (.long p4), .second, .val (.long 536870923), .second, .val (.long jr0), .second, .val (.long jr1), .second, .val (.long jr2), .second, .val (.long jr3), .second, .unset, .unset, .unset, .unset] [(.long p4)])) rfl (hb hby at_49) _ ?_
    show Steps p.tables e below (T1.setTop (mkF m 52 #[.val (.long p0), .second, .val (.long p1), .second, .val (.long p2), .second, .val (.long p3), .second, .val (.long p4), .second, .val (.long 536870923), .second, .val (.long jr0), .second, .val (.long jr1), .second, .val (.long jr2), .second, .val (.long jr3), .second, .unset, .unset, .unset, .unset] [(.long 9223372036854775807), (.long p4)])) _
    refine XS.land X1.here hx rfl (hb hby at_52) rfl ?_
    refine XS.lload X1.here hx rfl (hb hby at_53) rfl ?_
    show Steps p.tables e below (T1.setTop (mkF m 55 #[.val (.long p0), .second, .val (.long p1), .second, .val (.long p2), .second, .val (.long p3), .second, .val (.long p4), .second, .val (.long 536870923), .second, .val (.long jr0), .second, .val (.long jr1), .second, .val (.long jr2), .second, .val (.long jr3), .second, .unset, .unset, .unset, .unset] [(.long 536870923), (.long (p4 &&& (9223372036854775807 : Int64)))])) _
    refine own_lremM X1 hx rfl (hb hby at_55) rfl (by decide) ?_
    show Steps p.tables e below (T1.setTop (mkF m 56 #[.val (.long p0), .second, .val (.long p1), .second, .val (.long p2), .second, .val (.long p3), .second, .val (.long p4), .second, .val (.long 536870923), .second, .val (.long jr0), .second, .val (.long jr1), .second, .val (.long jr2), .second, .val (.long jr3), .second, .unset, .unset, .unset, .unset] [(.long ((p4 &&& (9223372036854775807 : Int64)) % (536870923 : Int64)))])) _
    rw [f6]
    refine XS.lstore X1.here hx rfl (hb hby at_56) rfl (l' := #[.val (.long p0), .second, .val (.long p1), .second, .val (.long p2), .second, .val (.long p3), .second, .val (.long p4), .second, .val (.long 536870923), .second, .val (.long jr0), .second, .val (.long jr1), .second, .val (.long jr2), .second, .val (.long jr3), .second, .val (.long jr4), .second, .unset, .unset]) rfl ?_
    refine XS.iconst X1.here hx rfl (hb hby at_58) ?_
    show Steps p.tables e below (T1.setTop (mkF m 59 #[.val (.long p0), .second, .val (.long p1), .second, .val (.long p2), .second, .val (.long p3), .second, .val (.long p4), .second, .val (.long 536870923), .second, .val (.long jr0), .second, .val (.long jr1), .second, .val (.long jr2), .second, .val (.long jr3), .second, .val (.long jr4), .second, .unset, .unset] [(.int 2)])) _
    refine st2 _ ?_
    refine XS.astore X2.here hx rfl (hb hby at_61) rfl rfl (l' := #[.val (.long p0), .second, .val (.long p1), .second, .val (.long p2), .second, .val (.long p3), .second, .val (.long p4), .second, .val (.long 536870923), .second, .val (.long jr0), .second, .val (.long jr1), .second, .val (.long jr2), .second, .val (.long jr3), .second, .val (.long jr4), .second, .val (.ref b18), .unset]) rfl ?_
    refine XS.aload X2.here hx rfl (hb hby at_63) rfl rfl ?_
    refine XS.iconst X2.here hx rfl (hb hby at_65) ?_
    refine XS.lload X2.here hx rfl (hb hby at_66) rfl ?_
    show Steps p.tables e below (T2.setTop (mkF m 68 #[.val (.long p0), .second, .val (.long p1), .second, .val (.long p2), .second, .val (.long p3), .second, .val (.long p4), .second, .val (.long 536870923), .second, .val (.long jr0), .second, .val (.long jr1), .second, .val (.long jr2), .second, .val (.long jr3), .second, .val (.long jr4), .second, .val (.ref b18), .unset] [(.long jr0), (.int 0), (.ref b18)])) _
    refine st4 _ ?_
    refine XS.aload X4.here hx rfl (hb hby at_69) rfl rfl ?_
    refine XS.iconst X4.here hx rfl (hb hby at_71) ?_
    refine XS.lload X4.here hx rfl (hb hby at_72) rfl ?_
    show Steps p.tables e below (T4.setTop (mkF m 74 #[.val (.long p0), .second, .val (.long p1), .second, .val (.long p2), .second, .val (.long p3), .second, .val (.long p4), .second, .val (.long 536870923), .second, .val (.long jr0), .second, .val (.long jr1), .second, .val (.long jr2), .second, .val (.long jr3), .second, .val (.long jr4), .second, .val (.ref b18), .unset] [(.long jr1), (.int 1), (.ref b18)])) _
    refine st6 _ ?_
    refine XS.iconst X6.here hx rfl (hb hby at_75) ?_
    show Steps p.tables e below (T6.setTop (mkF m 76 #[.val (.long p0), .second, .val (.long p1), .second, .val (.long p2), .second, .val (.long p3), .second, .val (.long p4), .second, .val (.long 536870923), .second, .val (.long jr0), .second, .val (.long jr1), .second, .val (.long jr2), .second, .val (.long jr3), .second, .val (.long jr4), .second, .val (.ref b18), .unset] [(.int 2)])) _
    refine st7 _ ?_
    refine XS.astore X7.here hx rfl (hb hby at_78) rfl rfl (l' := #[.val (.long p0), .second, .val (.long p1), .second, .val (.long p2), .second, .val (.long p3), .second, .val (.long p4), .second, .val (.long 536870923), .second, .val (.long jr0), .second, .val (.long jr1), .second, .val (.long jr2), .second, .val (.long jr3), .second, .val (.long jr4), .second, .val (.ref b18), .val (.ref b20)]) rfl ?_
    refine XS.aload X7.here hx rfl (hb hby at_80) rfl rfl ?_
    refine XS.iconst X7.here hx rfl (hb hby at_82) ?_
    refine XS.lload X7.here hx rfl (hb hby at_83) rfl ?_
    show Steps p.tables e below (T7.setTop (mkF m 85 #[.val (.long p0), .second, .val (.long p1), .second, .val (.long p2), .second, .val (.long p3), .second, .val (.long p4), .second, .val (.long 536870923), .second, .val (.long jr0), .second, .val (.long jr1), .second, .val (.long jr2), .second, .val (.long jr3), .second, .val (.long jr4), .second, .val (.ref b18), .val (.ref b20)] [(.long jr2), (.int 0), (.ref b20)])) _
    refine st9 _ ?_
    refine XS.aload X9.here hx rfl (hb hby at_86) rfl rfl ?_
    refine XS.iconst X9.here hx rfl (hb hby at_88) ?_
    refine XS.lload X9.here hx rfl (hb hby at_89) rfl ?_
    show Steps p.tables e below (T9.setTop (mkF m 91 #[.val (.long p0), .second, .val (.long p1), .second, .val (.long p2), .second, .val (.long p3), .second, .val (.long p4), .second, .val (.long 536870923), .second, .val (.long jr0), .second, .val (.long jr1), .second, .val (.long jr2), .second, .val (.long jr3), .second, .val (.long jr4), .second, .val (.ref b18), .val (.ref b20)] [(.long jr3), (.int 1), (.ref b20)])) _
    refine st11 _ ?_
    refine XS.aload X11.here hx rfl (hb hby at_92) rfl rfl ?_
    refine XS.lload X11.here hx rfl (hb hby at_94) rfl ?_
    refine XS.aload X11.here hx rfl (hb hby at_96) rfl rfl ?_
    show Steps p.tables e below (T11.setTop (mkF m 98 #[.val (.long p0), .second, .val (.long p1), .second, .val (.long p2), .second, .val (.long p3), .second, .val (.long p4), .second, .val (.long 536870923), .second, .val (.long jr0), .second, .val (.long jr1), .second, .val (.long jr2), .second, .val (.long jr3), .second, .val (.long jr4), .second, .val (.ref b18), .val (.ref b20)] [(.ref b20), (.long jr4), (.ref b18)])) _
    refine st22 _ ?_
    refine XS.aload X22.here hx rfl (hb hby at_101) rfl rfl ?_
    show Steps p.tables e below (T22.setTop (mkF m 103 #[.val (.long p0), .second, .val (.long p1), .second, .val (.long p2), .second, .val (.long p3), .second, .val (.long p4), .second, .val (.long 536870923), .second, .val (.long jr0), .second, .val (.long jr1), .second, .val (.long jr2), .second, .val (.long jr3), .second, .val (.long jr4), .second, .val (.ref b18), .val (.ref b20)] [(.ref b18)])) _
    refine X22.arraylength hx (by exact Ar23.1) (State.isArrayOf_alike hZ.alike Ar23.2.1) (g := (mkF m 103 #[.val (.long p0), .second, .val (.long p1), .second, .val (.long p2), .second, .val (.long p3), .second, .val (.long p4), .second, .val (.long 536870923), .second, .val (.long jr0), .second, .val (.long jr1), .second, .val (.long jr2), .second, .val (.long jr3), .second, .val (.long jr4), .second, .val (.ref b18), .val (.ref b20)] [(.ref b18)])) rfl rfl (hb hby at_103) _ ?_
    rw [len_of S23 N23_]
    refine XS.iconst X22.here hx rfl (hb hby at_104) ?_
    refine XS.icmpNo X22.here hx rfl (hb hby at_105) rfl (by decide) ?_
    refine XS.aload X22.here hx rfl (hb hby at_108) rfl rfl ?_
    refine XS.iconst X22.here hx rfl (hb hby at_110) ?_
    show Steps p.tables e below (T22.setTop (mkF m 111 #[.val (.long p0), .second, .val (.long p1), .second, .val (.long p2), .second, .val (.long p3), .second, .val (.long p4), .second, .val (.long 536870923), .second, .val (.long jr0), .second, .val (.long jr1), .second, .val (.long jr2), .second, .val (.long jr3), .second, .val (.long jr4), .second, .val (.ref b18), .val (.ref b20)] [(.int 0), (.ref b18)])) _
    refine X22.laload hx (j := (0 : Int32)) (v := (.long jm0)) (by exact Ar24.1) (State.isArrayOf_alike hZ.alike Ar24.2.1) Ar24.2.2 hin24 hat24 (g := (mkF m 111 #[.val (.long p0), .second, .val (.long p1), .second, .val (.long p2), .second, .val (.long p3), .second, .val (.long p4), .second, .val (.long 536870923), .second, .val (.long jr0), .second, .val (.long jr1), .second, .val (.long jr2), .second, .val (.long jr3), .second, .val (.long jr4), .second, .val (.ref b18), .val (.ref b20)] [(.int 0), (.ref b18)])) rfl rfl (hb hby at_111) _ ?_
    refine XS.lload X22.here hx rfl (hb hby at_112) rfl ?_
    refine XS.lload X22.here hx rfl (hb hby at_114) rfl ?_
    refine XS.lload X22.here hx rfl (hb hby at_116) rfl ?_
    refine XS.lload X22.here hx rfl (hb hby at_118) rfl ?_
    show Steps p.tables e below (T22.setTop (mkF m 120 #[.val (.long p0), .second, .val (.long p1), .second, .val (.long p2), .second, .val (.long p3), .second, .val (.long p4), .second, .val (.long 536870923), .second, .val (.long jr0), .second, .val (.long jr1), .second, .val (.long jr2), .second, .val (.long jr3), .second, .val (.long jr4), .second, .val (.ref b18), .val (.ref b20)] [(.long 536870923), (.long jr2), (.long jr4), (.long jr0), (.long jm0)])) _
    refine st25 _ ?_
    show Steps p.tables e below (T25.setTop (mkF m 123 #[.val (.long p0), .second, .val (.long p1), .second, .val (.long p2), .second, .val (.long p3), .second, .val (.long p4), .second, .val (.long 536870923), .second, .val (.long jr0), .second, .val (.long jr1), .second, .val (.long jr2), .second, .val (.long jr3), .second, .val (.long jr4), .second, .val (.ref b18), .val (.ref b20)] [(.long jx0), (.long jm0)])) _
    refine XS.lcmp X25.here hx rfl (hb hby at_123) rfl ?_
    refine XS.ifNo X25.here hx rfl (hb hby at_124) rfl ((if0 _ _).trans (teq (f15 : (lcmpW jm0 jx0) = (0 : Int32))).2) ?_
    refine XS.aload X25.here hx rfl (hb hby at_127) rfl rfl ?_
    refine XS.iconst X25.here hx rfl (hb hby at_129) ?_
    show Steps p.tables e below (T25.setTop (mkF m 130 #[.val (.long p0), .second, .val (.long p1), .second, .val (.long p2), .second, .val (.long p3), .second, .val (.long p4), .second, .val (.long 536870923), .second, .val (.long jr0), .second, .val (.long jr1), .second, .val (.long jr2), .second, .val (.long jr3), .second, .val (.long jr4), .second, .val (.ref b18), .val (.ref b20)] [(.int 1), (.ref b18)])) _
    refine X25.laload hx (j := (1 : Int32)) (v := (.long jm1)) (by rw [e25]; exact Ar26.1) (State.isArrayOf_alike hZ.alike Ar26.2.1) Ar26.2.2 hin26 hat26 (g := (mkF m 130 #[.val (.long p0), .second, .val (.long p1), .second, .val (.long p2), .second, .val (.long p3), .second, .val (.long p4), .second, .val (.long 536870923), .second, .val (.long jr0), .second, .val (.long jr1), .second, .val (.long jr2), .second, .val (.long jr3), .second, .val (.long jr4), .second, .val (.ref b18), .val (.ref b20)] [(.int 1), (.ref b18)])) rfl rfl (hb hby at_130) _ ?_
    refine XS.lload X25.here hx rfl (hb hby at_131) rfl ?_
    refine XS.lload X25.here hx rfl (hb hby at_133) rfl ?_
    refine XS.lload X25.here hx rfl (hb hby at_135) rfl ?_
    refine XS.lload X25.here hx rfl (hb hby at_137) rfl ?_
    show Steps p.tables e below (T25.setTop (mkF m 139 #[.val (.long p0), .second, .val (.long p1), .second, .val (.long p2), .second, .val (.long p3), .second, .val (.long p4), .second, .val (.long 536870923), .second, .val (.long jr0), .second, .val (.long jr1), .second, .val (.long jr2), .second, .val (.long jr3), .second, .val (.long jr4), .second, .val (.ref b18), .val (.ref b20)] [(.long 536870923), (.long jr3), (.long jr4), (.long jr1), (.long jm1)])) _
    refine st27 _ ?_
    show Steps p.tables e below (T27.setTop (mkF m 142 #[.val (.long p0), .second, .val (.long p1), .second, .val (.long p2), .second, .val (.long p3), .second, .val (.long p4), .second, .val (.long 536870923), .second, .val (.long jr0), .second, .val (.long jr1), .second, .val (.long jr2), .second, .val (.long jr3), .second, .val (.long jr4), .second, .val (.ref b18), .val (.ref b20)] [(.long jd1), (.long jm1)])) _
    refine XS.lcmp X27.here hx rfl (hb hby at_142) rfl ?_
    refine XS.ifNo X27.here hx rfl (hb hby at_143) rfl ((if0 _ _).trans (teq (f19 : (lcmpW jm1 jd1) = (0 : Int32))).2) ?_
    refine XS.aload X27.here hx rfl (hb hby at_146) rfl rfl ?_
    refine XS.iconst X27.here hx rfl (hb hby at_148) ?_
    show Steps p.tables e below (T27.setTop (mkF m 149 #[.val (.long p0), .second, .val (.long p1), .second, .val (.long p2), .second, .val (.long p3), .second, .val (.long p4), .second, .val (.long 536870923), .second, .val (.long jr0), .second, .val (.long jr1), .second, .val (.long jr2), .second, .val (.long jr3), .second, .val (.long jr4), .second, .val (.ref b18), .val (.ref b20)] [(.int 0), (.ref b20)])) _
    refine X27.laload hx (j := (0 : Int32)) (v := (.long jr2)) (by rw [e27]; exact Ar29.1) (State.isArrayOf_alike hZ.alike Ar29.2.1) Ar29.2.2 hin29 hat29 (g := (mkF m 149 #[.val (.long p0), .second, .val (.long p1), .second, .val (.long p2), .second, .val (.long p3), .second, .val (.long p4), .second, .val (.long 536870923), .second, .val (.long jr0), .second, .val (.long jr1), .second, .val (.long jr2), .second, .val (.long jr3), .second, .val (.long jr4), .second, .val (.ref b18), .val (.ref b20)] [(.int 0), (.ref b20)])) rfl rfl (hb hby at_149) _ ?_
    refine XS.lload X27.here hx rfl (hb hby at_150) rfl ?_
    show Steps p.tables e below (T27.setTop (mkF m 152 #[.val (.long p0), .second, .val (.long p1), .second, .val (.long p2), .second, .val (.long p3), .second, .val (.long p4), .second, .val (.long 536870923), .second, .val (.long jr0), .second, .val (.long jr1), .second, .val (.long jr2), .second, .val (.long jr3), .second, .val (.long jr4), .second, .val (.ref b18), .val (.ref b20)] [(.long jr2), (.long jr2)])) _
    refine XS.lcmp X27.here hx rfl (hb hby at_152) rfl ?_
    refine XS.ifNo X27.here hx rfl (hb hby at_153) rfl ((if0 _ _).trans (teq (f20 : (lcmpW jr2 jr2) = (0 : Int32))).2) ?_
    refine XS.aload X27.here hx rfl (hb hby at_156) rfl rfl ?_
    refine XS.iconst X27.here hx rfl (hb hby at_158) ?_
    show Steps p.tables e below (T27.setTop (mkF m 159 #[.val (.long p0), .second, .val (.long p1), .second, .val (.long p2), .second, .val (.long p3), .second, .val (.long p4), .second, .val (.long 536870923), .second, .val (.long jr0), .second, .val (.long jr1), .second, .val (.long jr2), .second, .val (.long jr3), .second, .val (.long jr4), .second, .val (.ref b18), .val (.ref b20)] [(.int 1), (.ref b20)])) _
    refine X27.laload hx (j := (1 : Int32)) (v := (.long jr3)) (by rw [e27]; exact Ar30.1) (State.isArrayOf_alike hZ.alike Ar30.2.1) Ar30.2.2 hin30 hat30 (g := (mkF m 159 #[.val (.long p0), .second, .val (.long p1), .second, .val (.long p2), .second, .val (.long p3), .second, .val (.long p4), .second, .val (.long 536870923), .second, .val (.long jr0), .second, .val (.long jr1), .second, .val (.long jr2), .second, .val (.long jr3), .second, .val (.long jr4), .second, .val (.ref b18), .val (.ref b20)] [(.int 1), (.ref b20)])) rfl rfl (hb hby at_159) _ ?_
    refine XS.lload X27.here hx rfl (hb hby at_160) rfl ?_
    show Steps p.tables e below (T27.setTop (mkF m 162 #[.val (.long p0), .second, .val (.long p1), .second, .val (.long p2), .second, .val (.long p3), .second, .val (.long p4), .second, .val (.long 536870923), .second, .val (.long jr0), .second, .val (.long jr1), .second, .val (.long jr2), .second, .val (.long jr3), .second, .val (.long jr4), .second, .val (.ref b18), .val (.ref b20)] [(.long jr3), (.long jr3)])) _
    refine XS.lcmp X27.here hx rfl (hb hby at_162) rfl ?_
    refine XS.ifNo X27.here hx rfl (hb hby at_163) rfl ((if0 _ _).trans (teq (f21 : (lcmpW jr3 jr3) = (0 : Int32))).2) ?_
    refine XS.iconst X27.here hx rfl (hb hby at_166) ?_
    refine XS.goto X27.here hx rfl (pc0 := 167) (pc' := 171) rfl (hb hby at_167) (by decide) (by decide) ?_
    show Steps p.tables e below (T27.setTop (mkF m 171 #[.val (.long p0), .second, .val (.long p1), .second, .val (.long p2), .second, .val (.long p3), .second, .val (.long p4), .second, .val (.long 536870923), .second, .val (.long jr0), .second, .val (.long jr1), .second, .val (.long jr2), .second, .val (.long jr3), .second, .val (.long jr4), .second, .val (.ref b18), .val (.ref b20)] [(.int 1)])) _
    exact retN X27 hx (t := .boolean) Bd.returns (by simp) (hb hby at_171) hr
  · show QT n0 _ T27.heap _
    rw [e27]
    exact ⟨rfl, N27⟩
set_option maxRecDepth 65536 in
set_option maxHeartbeats 40000000 in
theorem rm0_27 (l : Launch) (Z : State) (a0 : Array Value) (hw : ∀ d ∈ tables_1, d.before a0 Z = true) (ws : List Jvm.Cond) (p0 : Int64) (p1 : Int64) (p2 : Int64) (p3 : Int64) (p4 : Int64) (jr0 : Int64) (jr1 : Int64) (jr2 : Int64) (jr3 : Int64) (jr4 : Int64) (jnf : Int64) (jm0 : Int64) (jm1 : Int64) (jt0 : Int64) (jd0 : Int64) (jt1 : Int64) (jd1 : Int64) (jx1 : Int64) (h0 : Heap) (n0 : Nat) (Z0 : n0 ≤ h0.size) (f1 : S_0 Z h0 (.long 536870923)) (f2 : ((p0 &&& (9223372036854775807 : Int64)) % (536870923 : Int64)) = jr0) (f3 : ((p1 &&& (9223372036854775807 : Int64)) % (536870923 : Int64)) = jr1) (f4 : ((p2 &&& (9223372036854775807 : Int64)) % (536870923 : Int64)) = jr2) (f5 : ((p3 &&& (9223372036854775807 : Int64)) % (536870923 : Int64)) = jr3) (f6 : ((p4 &&& (9223372036854775807 : Int64)) % (536870923 : Int64)) = jr4) (f7 : ¬ ((lcmpW jr4 (0 : Int64)) = (0 : Int32))) (f8 : ((536870923 : Int64) - jr4) = jnf) (f9 : ((jr0 + (jnf * jr2)) % (536870923 : Int64)) = jm0) (f10 : ((jr1 + (jnf * jr3)) % (536870923 : Int64)) = jm1) (f11 : ((jr4 * jr2) % (536870923 : Int64)) = jt0) (f12 : (jr0 - jt0) = jd0) (f13 : ¬ ((lcmpW jd0 (0 : Int64)) < (0 : Int32))) (f14 : (lcmpW jm0 jd0) = (0 : Int32)) (f15 : ((jr4 * jr3) % (536870923 : Int64)) = jt1) (f16 : (jr1 - jt1) = jd1) (f17 : (lcmpW jd1 (0 : Int64)) < (0 : Int32)) (f18 : (jd1 + (536870923 : Int64)) = jx1) (f19 : (lcmpW jm1 jx1) = (0 : Int32)) (f20 : (lcmpW jr2 jr2) = (0 : Int32)) (f21 : (lcmpW jr3 jr3) = (0 : Int32)) :
    MetFree l x (head1 (Jvm.Cond.code x code maxLocals ret :: ws) room_1) (fun a U => a = #[(.long p0), (.long p1), (.long p2), (.long p3), (.long p4)] ∧ Z.Warmed39 U.vm ∧ U.heap = h0) (fun _ _ _ _ _ => True) (fun _ U o U' => ∃ v L, o = .returned v ∧ QT n0 v U'.heap L ∧ FrameEnd U o U' L room_1.cells room_1.slots) := by
  refine MetFree.of_bodySF (plainFor_of_name pn_com_example_subsumption_subsumption_SquareSystemSubtractTimesPinLaw) hisR ?_
  intro p e s m args below meth c s₁ Bd hml0 hP hK
  obtain ⟨rfl, hZ, hh⟩ := hP
  have hx := Bd.exec
  have hby := Bd.bytes
  have hml : c.maxLocals = 24 := hml0
  have hown : s.vm.findClass "com/example/subsumption/subsumption/SquareSystemSubtractTimesPinLaw" = some m.cls := findClass_of_methodNamed Bd.named
  have hnm := (name_of_methodNamed Bd.named Bd.method).1
  have X0 : Stand p l e room_1 s m #[(.long p0), (.long p1), (.long p2), (.long p3), (.long p4)] below meth c s₁ [] 0 0 := Stand.of_body Bd
  have e0 : s₁.heap = h0 := by rw [← hh, Bd.state]; rfl
  have N0 := Fr.nil n0
  obtain ⟨T1, X1, e1, st1⟩ := getS2 X0 hx hZ hown (host := "") (Or.inl (tw_0 hw)) Via.refl e0 f1 (g := (mkF m 0 #[.val (.long p0), .second, .val (.long p1), .second, .val (.long p2), .second, .val (.long p3), .second, .val (.long p4), .second, .unset, .unset, .unset, .unset, .unset, .unset, .unset, .unset, .unset, .unset, .unset, .unset, .unset, .unset] [])) rfl (hb hby at_0)
  obtain ⟨T2, h2, k2, X2, e2, E2, A2, st2⟩ := newP X1 hx hZ (aty := .long) (tw_4 hw) e1 (g := (mkF m 59 #[.val (.long p0), .second, .val (.long p1), .second, .val (.long p2), .second, .val (.long p3), .second, .val (.long p4), .second, .val (.long 536870923), .second, .val (.long jr0), .second, .val (.long jr1), .second, .val (.long jr2), .second, .val (.long jr3), .second, .val (.long jr4), .second, .unset, .unset] [(.int 2)])) rfl (hb hby at_59) rfl (by decide : ¬ ((2 : Int32) < (0 : Int32))) (cap := 2) (by decide : (2 : Int32).toNatClampNeg ≤ 2) (by decide) (by decide) (by decide)
  obtain ⟨b23, g2⟩ : ∃ z, z = h0.size := ⟨_, rfl⟩
  rw [← g2] at A2 st2
  obtain ⟨kc24, gk2⟩ : ∃ z, z = k2 := ⟨_, rfl⟩
  rw [← gk2] at A2
  have sz_b23 : h0.size ≤ b23 := Nat.le_trans (Nat.le_refl _) (Nat.le_of_eq g2.symm)
  have g_b23 : n0 ≤ b23 := Nat.le_trans Z0 sz_b23
  have KK2 : Keep h0 h2 [] := (Keep.refl h0 []).ext E2
  have V2 : Arv Z h2 b23 kc24 .long (2 : Int32) [(.long 0), (.long 0)] (.long 0) := (Arv.new A2 (by decide)).pad (pad_rep [] (.long 0) 2)
  have va3 := V2
  obtain ⟨cl3, Ar3, q3, S3, N3_, H3, G3⟩ := va3
  have hin3 : ¬ ((0 : Int32) < 0 ∨ cl3.slots.size ≤ ((0 : Int32)).toNatClampNeg) := inb_of S3 ⟨by decide, by decide⟩
  obtain ⟨T4, h4, X4, e4, W4, st4⟩ := stJ X2 hx hZ e2 Ar3 (j := (0 : Int32)) hin3 (g := (mkF m 68 #[.val (.long p0), .second, .val (.long p1), .second, .val (.long p2), .second, .val (.long p3), .second, .val (.long p4), .second, .val (.long 536870923), .second, .val (.long jr0), .second, .val (.long jr1), .second, .val (.long jr2), .second, .val (.long jr3), .second, .val (.long jr4), .second, .val (.ref b23), .unset] [(.long jr0), (.int 0), (.ref b23)])) rfl rfl (hb hby at_68)
  have Vw4 : Arv Z h4 b23 kc24 .long (2 : Int32) [(.long jr0), (.long 0)] (.long 0) := Arv.set Ar3 q3 S3 N3_ H3 G3 rfl W4 0 rfl (Nat.le_of_ble_eq_true rfl)
  have KK4 : Keep h0 h4 [] := KK2.wr W4 (Or.inr sz_b23)
  have N4 := Fr.snoc X4 N0 g_b23
  have va5 := Vw4
  obtain ⟨cl5, Ar5, q5, S5, N5_, H5, G5⟩ := va5
  have hin5 : ¬ ((1 : Int32) < 0 ∨ cl5.slots.size ≤ ((1 : Int32)).toNatClampNeg) := inb_of S5 ⟨by decide, by decide⟩
  obtain ⟨T6, h6, X6, e6, W6, st6⟩ := stJ X4 hx hZ e4 Ar5 (j := (1 : Int32)) hin5 (g := (mkF m 74 #[.val (.long p0), .second, .val (.long p1), .second, .val (.long p2), .second, .val (.long p3), .second, .val (.long p4), .second, .val (.long 536870923), .second, .val (.long jr0), .second, .val (.long jr1), .second, .val (.long jr2), .second, .val (.long jr3), .second, .val (.long jr4), .second, .val (.ref b23), .unset] [(.long jr1), (.int 1), (.ref b23)])) rfl rfl (hb hby at_74)
  have Vw6 : Arv Z h6 b23 kc24 .long (2 : Int32) [(.long jr0), (.long jr1)] (.long 0) := Arv.set Ar5 q5 S5 N5_ H5 G5 rfl W6 1 rfl (Nat.le_of_ble_eq_true rfl)
  have KK6 : Keep h0 h6 [] := KK4.wr W6 (Or.inr sz_b23)
  have N6 := Fr.snoc X6 N4 g_b23
  obtain ⟨T7, h7, k7, X7, e7, E7, A7, st7⟩ := newP X6 hx hZ (aty := .long) (tw_4 hw) e6 (g := (mkF m 76 #[.val (.long p0), .second, .val (.long p1), .second, .val (.long p2), .second, .val (.long p3), .second, .val (.long p4), .second, .val (.long 536870923), .second, .val (.long jr0), .second, .val (.long jr1), .second, .val (.long jr2), .second, .val (.long jr3), .second, .val (.long jr4), .second, .val (.ref b23), .unset] [(.int 2)])) rfl (hb hby at_76) rfl (by decide : ¬ ((2 : Int32) < (0 : Int32))) (cap := 2) (by decide : (2 : Int32).toNatClampNeg ≤ 2) (by decide) (by decide) (by decide)
  obtain ⟨b25, g7⟩ : ∃ z, z = h6.size := ⟨_, rfl⟩
  rw [← g7] at A7 st7
  obtain ⟨kc26, gk7⟩ : ∃ z, z = k7 := ⟨_, rfl⟩
  rw [← gk7] at A7
  have sz_b25 : h0.size ≤ b25 := Nat.le_trans KK6.1 (Nat.le_of_eq g7.symm)
  have g_b25 : n0 ≤ b25 := Nat.le_trans Z0 sz_b25
  have KK7 : Keep h0 h7 [] := KK6.ext E7
  have V7 : Arv Z h7 b25 kc26 .long (2 : Int32) [(.long 0), (.long 0)] (.long 0) := (Arv.new A7 (by decide)).pad (pad_rep [] (.long 0) 2)
  have va8 := V7
  obtain ⟨cl8, Ar8, q8, S8, N8_, H8, G8⟩ := va8
  have hin8 : ¬ ((0 : Int32) < 0 ∨ cl8.slots.size ≤ ((0 : Int32)).toNatClampNeg) := inb_of S8 ⟨by decide, by decide⟩
  obtain ⟨T9, h9, X9, e9, W9, st9⟩ := stJ X7 hx hZ e7 Ar8 (j := (0 : Int32)) hin8 (g := (mkF m 85 #[.val (.long p0), .second, .val (.long p1), .second, .val (.long p2), .second, .val (.long p3), .second, .val (.long p4), .second, .val (.long 536870923), .second, .val (.long jr0), .second, .val (.long jr1), .second, .val (.long jr2), .second, .val (.long jr3), .second, .val (.long jr4), .second, .val (.ref b23), .val (.ref b25)] [(.long jr2), (.int 0), (.ref b25)])) rfl rfl (hb hby at_85)
  have Vw9 : Arv Z h9 b25 kc26 .long (2 : Int32) [(.long jr2), (.long 0)] (.long 0) := Arv.set Ar8 q8 S8 N8_ H8 G8 rfl W9 0 rfl (Nat.le_of_ble_eq_true rfl)
  have KK9 : Keep h0 h9 [] := KK7.wr W9 (Or.inr sz_b25)
  have N9 := Fr.snoc X9 N6 g_b25
  have va10 := Vw9
  obtain ⟨cl10, Ar10, q10, S10, N10_, H10, G10⟩ := va10
  have hin10 : ¬ ((1 : Int32) < 0 ∨ cl10.slots.size ≤ ((1 : Int32)).toNatClampNeg) := inb_of S10 ⟨by decide, by decide⟩
  obtain ⟨T11, h11, X11, e11, W11, st11⟩ := stJ X9 hx hZ e9 Ar10 (j := (1 : Int32)) hin10 (g := (mkF m 91 #[.val (.long p0), .second, .val (.long p1), .second, .val (.long p2), .second, .val (.long p3), .second, .val (.long p4), .second, .val (.long 536870923), .second, .val (.long jr0), .second, .val (.long jr1), .second, .val (.long jr2), .second, .val (.long jr3), .second, .val (.long jr4), .second, .val (.ref b23), .val (.ref b25)] [(.long jr3), (.int 1), (.ref b25)])) rfl rfl (hb hby at_91)
  have Vw11 : Arv Z h11 b25 kc26 .long (2 : Int32) [(.long jr2), (.long jr3)] (.long 0) := Arv.set Ar10 q10 S10 N10_ H10 G10 rfl W11 1 rfl (Nat.le_of_ble_eq_true rfl)
  have KK11 : Keep h0 h11 [] := KK9.wr W11 (Or.inr sz_b25)
  have N11 := Fr.snoc X11 N9 g_b25
  -- pc 98: com/example/subsumption/subsumption/SquareSystem.subtractTimes
  have u12 : S_0 Z h2 (.long 536870923) := Sta.ext E2 f1
  have u13 : S_0 Z h4 (.long 536870923) := Sta.wr W4 u12
  have u14 : S_0 Z h6 (.long 536870923) := Sta.wr W6 u13
  have u15 : S_0 Z h7 (.long 536870923) := Sta.ext E7 u14
  have u16 : S_0 Z h9 (.long 536870923) := Sta.wr W9 u15
  have u17 : S_0 Z h11 (.long 536870923) := Sta.wr W11 u16
  have u18 : Arv Z h7 b23 kc24 .long (2 : Int32) [(.long jr0), (.long jr1)] (.long 0) := Arv.ext Vw6 E7
  have ne19 : b23 ≠ b25 := Nat.ne_of_lt (Nat.lt_of_lt_of_le (Arv.lt Vw6) (Nat.le_of_eq g7.symm))
  have u20 : Arv Z h9 b23 kc24 .long (2 : Int32) [(.long jr0), (.long jr1)] (.long 0) := Arv.other u18 W9 ne19
  have u21 : Arv Z h11 b23 kc24 .long (2 : Int32) [(.long jr0), (.long jr1)] (.long 0) := Arv.other u20 W11 ne19
  obtain ⟨_, _, ⟨T22, L22, k22, n22⟩, -, X22, ⟨Lc22, hQ22, l22, y22, z22⟩, st22⟩ := Jvm.LawKit.callS X11 hx (y := M_0) hown (mvT hZ (tw_5 hw)) (mvT hZ (tw_6 hw)) (mvT hZ (tw_1 hw)) (mvT hZ (tw_7 hw)) (by decide) (backOf (W := 0) (rm1_13 l Z a0 hw [] b23 jr4 b25 jnf kc24 jr0 jr1 kc26 jr2 jr3 jm0 jm1 h11 n0 (Nat.le_trans Z0 KK11.1) f7 u17 f8 u21 Vw11 f9 g_b23 (Ne.symm ne19) f10) hZ (tw_7 hw) (tw_1 hw) (by decide) (by decide)) (g := (mkF m 98 #[.val (.long p0), .second, .val (.long p1), .second, .val (.long p2), .second, .val (.long p3), .second, .val (.long p4), .second, .val (.long 536870923), .second, .val (.long jr0), .second, .val (.long jr1), .second, .val (.long jr2), .second, .val (.long jr3), .second, .val (.long jr4), .second, .val (.ref b23), .val (.ref b25)] [(.ref b25), (.long jr4), (.ref b23)])) rfl (by rw [hml]; rfl) (argsL := [(.ref b23), (.long jr4), (.ref b25)]) (rest := []) (lenOf pd_0 rfl) rfl (by show 2 * 0 + _ ≤ _; exact Nat.le_of_eq rfl) (hb hby at_98) (fun _ _ => ⟨rfl, e11, (by decide : 2 + 0 ≤ _), (by decide : 4 + 0 ≤ _)⟩)
  dsimp only [Pt.U, Pt.locs, Pt.cells, Pt.slots] at X22 l22 y22 z22 st22 hQ22
  subst l22 y22 z22
  obtain ⟨rfl, Nq22, K22, o22_0⟩ := hQ22
  have N22 := Fr.app N11 Nq22
  have KK22 : Keep h0 T22.heap [] := KK11.trans K22 (fun x hx => (List.mem_cons.mp hx).elim (fun q => q ▸ (Or.inr sz_b23)) (fun hx => nomatch hx))
  have va23 := o22_0
  obtain ⟨cl23, Ar23, -, S23, N23_, -, -⟩ := va23
  have va24 := o22_0
  obtain ⟨cl24, Ar24, -, S24, -, H24, -⟩ := va24
  have hin24 : ¬ ((0 : Int32) < 0 ∨ cl24.slots.size ≤ ((0 : Int32)).toNatClampNeg) := inb_of S24 ⟨by decide, by decide⟩
  have hat24 : cl24.slots[((0 : Int32)).toNatClampNeg]? = some (.long jm0) := H24 _ (Nat.lt_of_not_le fun y => hin24 (Or.inr y))
  -- pc 120: com/example/subsumption/subsumption/SquareSystemSubtractTimesPinLaw.expected
  obtain ⟨_, _, ⟨T25, L25, k25, n25⟩, -, X25, ⟨Lc25, hQ25, l25, y25, z25⟩, st25⟩ := Jvm.LawKit.callS X22 hx (y := M_1) hown (mvT hZ (tw_8 hw)) (mvT hZ (tw_9 hw)) (mvT hZ (tw_10 hw)) (mvT hZ (tw_11 hw)) (by decide) (backOf (W := 2) (rm2_6 l Z a0 hw [] jr0 jr4 jr2 jt0 jd0 T22.heap n0 (Nat.le_trans Z0 KK22.1) f11 f12 f13) hZ (tw_11 hw) (tw_10 hw) (by decide) (by decide)) (g := (mkF m 120 #[.val (.long p0), .second, .val (.long p1), .second, .val (.long p2), .second, .val (.long p3), .second, .val (.long p4), .second, .val (.long 536870923), .second, .val (.long jr0), .second, .val (.long jr1), .second, .val (.long jr2), .second, .val (.long jr3), .second, .val (.long jr4), .second, .val (.ref b23), .val (.ref b25)] [(.long 536870923), (.long jr2), (.long jr4), (.long jr0), (.long jm0)])) rfl (by rw [hml]; rfl) (argsL := [(.long jr0), (.long jr4), (.long jr2), (.long 536870923)]) (rest := [(.long jm0)]) (lenOf pd_1 rfl) rfl (by show 2 * 0 + _ ≤ _; exact Nat.le_of_eq rfl) (hb hby at_120) (fun _ _ => ⟨rfl, rfl, (by decide : 2 + 0 ≤ _), (by decide : 4 + 0 ≤ _)⟩)
  dsimp only [Pt.U, Pt.locs, Pt.cells, Pt.slots] at X25 l25 y25 z25 st25 hQ25
  subst l25 y25 z25
  obtain ⟨rfl, Nq25, e25⟩ := hQ25
  have N25 := Fr.app N22 Nq25
  have va26 := o22_0
  obtain ⟨cl26, Ar26, -, S26, -, H26, -⟩ := va26
  have hin26 : ¬ ((1 : Int32) < 0 ∨ cl26.slots.size ≤ ((1 : Int32)).toNatClampNeg) := inb_of S26 ⟨by decide, by decide⟩
  have hat26 : cl26.slots[((1 : Int32)).toNatClampNeg]? = some (.long jm1) := H26 _ (Nat.lt_of_not_le fun y => hin26 (Or.inr y))
  -- pc 139: com/example/subsumption/subsumption/SquareSystemSubtractTimesPinLaw.expected
  obtain ⟨_, _, ⟨T27, L27, k27, n27⟩, -, X27, ⟨Lc27, hQ27, l27, y27, z27⟩, st27⟩ := Jvm.LawKit.callS X25 hx (y := M_1) hown (mvT hZ (tw_8 hw)) (mvT hZ (tw_9 hw)) (mvT hZ (tw_10 hw)) (mvT hZ (tw_11 hw)) (by decide) (backOf (W := 2) (rm2_16 l Z a0 hw [] jr1 jr4 jr3 jt1 jd1 jx1 T22.heap n0 (Nat.le_trans Z0 KK22.1) f15 f16 f17 f18) hZ (tw_11 hw) (tw_10 hw) (by decide) (by decide)) (g := (mkF m 139 #[.val (.long p0), .second, .val (.long p1), .second, .val (.long p2), .second, .val (.long p3), .second, .val (.long p4), .second, .val (.long 536870923), .second, .val (.long jr0), .second, .val (.long jr1), .second, .val (.long jr2), .second, .val (.long jr3), .second, .val (.long jr4), .second, .val (.ref b23), .val (.ref b25)] [(.long 536870923), (.long jr3), (.long jr4), (.long jr1), (.long jm1)])) rfl (by rw [hml]; rfl) (argsL := [(.long jr1), (.long jr4), (.long jr3), (.long 536870923)]) (rest := [(.long jm1)]) (lenOf pd_1 rfl) rfl (by show 2 * 0 + _ ≤ _; exact Nat.le_of_eq rfl) (hb hby at_139) (fun _ _ => ⟨rfl, e25, (by decide : 2 + 0 ≤ _), (by decide : 4 + 0 ≤ _)⟩)
  dsimp only [Pt.U, Pt.locs, Pt.cells, Pt.slots] at X27 l27 y27 z27 st27 hQ27
  subst l27 y27 z27
  obtain ⟨rfl, Nq27, e27⟩ := hQ27
  have N27 := Fr.app N25 Nq27
  have u28 : Arv Z T22.heap b25 kc26 .long (2 : Int32) [(.long jr2), (.long jr3)] (.long 0) := Arv.keep Vw11 K22 (own_notin (Ne.symm ne19) List.not_mem_nil)
  have va29 := u28
  obtain ⟨cl29, Ar29, -, S29, -, H29, -⟩ := va29
  have hin29 : ¬ ((0 : Int32) < 0 ∨ cl29.slots.size ≤ ((0 : Int32)).toNatClampNeg) := inb_of S29 ⟨by decide, by decide⟩
  have hat29 : cl29.slots[((0 : Int32)).toNatClampNeg]? = some (.long jr2) := H29 _ (Nat.lt_of_not_le fun y => hin29 (Or.inr y))
  have va30 := u28
  obtain ⟨cl30, Ar30, -, S30, -, H30, -⟩ := va30
  have hin30 : ¬ ((1 : Int32) < 0 ∨ cl30.slots.size ≤ ((1 : Int32)).toNatClampNeg) := inb_of S30 ⟨by decide, by decide⟩
  have hat30 : cl30.slots[((1 : Int32)).toNatClampNeg]? = some (.long jr3) := H30 _ (Nat.lt_of_not_le fun y => hin30 (Or.inr y))
  obtain ⟨fs, hr, hrun, hended, hW, hsame⟩ := X27.leave (v := (some (.int 1))) (fun h => by rw [Bd.returns] at h; cases h)
  refine ⟨_, _, castTop (ef0_JJJJJ m p0 p1 p2 p3 p4) ?_, hrun, hended, _, _, rfl, ?_, ⟨_, rfl⟩, hW, hsame.mono (by decide) (by decide)⟩
  · show Steps p.tables e below (s₁.setTop (mkF m 0 #[.val (.long p0), .second, .val (.long p1), .second, .val (.long p2), .second, .val (.long p3), .second, .val (.long p4), .second, .unset, .unset, .unset, .unset, .unset, .unset, .unset, .unset, .unset, .unset, .unset, .unset, .unset, .unset] [])) _
    refine st1 _ ?_
    refine XS.lstore X1.here hx rfl (hb hby at_3) rfl (l' := #[.val (.long p0), .second, .val (.long p1), .second, .val (.long p2), .second, .val (.long p3), .second, .val (.long p4), .second, .val (.long 536870923), .second, .unset, .unset, .unset, .unset, .unset, .unset, .unset, .unset, .unset, .unset, .unset, .unset]) rfl ?_
    refine XS.lloadN X1.here hx rfl (hb hby at_5) rfl ?_
    show Steps p.tables e below (T1.setTop (mkF m 6 #[.val (.long p0), .second, .val (.long p1), .second, .val (.long p2), .second, .val (.long p3), .second, .val (.long p4), .second, .val (.long 536870923), .second, .unset, .unset, .unset, .unset, .unset, .unset, .unset, .unset, .unset, .unset, .unset, .unset] [(.long p0)])) _
    refine X1.ldc2Long hx hown (mvT hZ (tw_3 hw)) (g := (mkF m 6 #[.val (.long p0), .second, .val (.long p1), .second, .val (.long p2), .second, .val (.long p3), .second, .val (.long p4), .second, .val (.long 536870923), .second, .unset, .unset, .unset, .unset, .unset, .unset, .unset, .unset, .unset, .unset, .unset, .unset] [(.long p0)])) rfl (hb hby at_6) _ ?_
    show Steps p.tables e below (T1.setTop (mkF m 9 #[.val (.long p0), .second, .val (.long p1), .second, .val (.long p2), .second, .val (.long p3), .second, .val (.long p4), .second, .val (.long 536870923), .second, .unset, .unset, .unset, .unset, .unset, .unset, .unset, .unset, .unset, .unset, .unset, .unset] [(.long 9223372036854775807), (.long p0)])) _
    refine XS.land X1.here hx rfl (hb hby at_9) rfl ?_
    refine XS.lload X1.here hx rfl (hb hby at_10) rfl ?_
    show Steps p.tables e below (T1.setTop (mkF m 12 #[.val (.long p0), .second, .val (.long p1), .second, .val (.long p2), .second, .val (.long p3), .second, .val (.long p4), .second, .val (.long 536870923), .second, .unset, .unset, .unset, .unset, .unset, .unset, .unset, .unset, .unset, .unset, .unset, .unset] [(.long 536870923), (.long (p0 &&& (9223372036854775807 : Int64)))])) _
    refine own_lremM X1 hx rfl (hb hby at_12) rfl (by decide) ?_
    show Steps p.tables e below (T1.setTop (mkF m 13 #[.val (.long p0), .second, .val (.long p1), .second, .val (.long p2), .second, .val (.long p3), .second, .val (.long p4), .second, .val (.long 536870923), .second, .unset, .unset, .unset, .unset, .unset, .unset, .unset, .unset, .unset, .unset, .unset, .unset] [(.long ((p0 &&& (9223372036854775807 : Int64)) % (536870923 : Int64)))])) _
    rw [f2]
    refine XS.lstore X1.here hx rfl (hb hby at_13) rfl (l' := #[.val (.long p0), .second, .val (.long p1), .second, .val (.long p2), .second, .val (.long p3), .second, .val (.long p4), .second, .val (.long 536870923), .second, .val (.long jr0), .second, .unset, .unset, .unset, .unset, .unset, .unset, .unset, .unset, .unset, .unset]) rfl ?_
    refine XS.lloadN X1.here hx rfl (hb hby at_15) rfl ?_
    show Steps p.tables e below (T1.setTop (mkF m 16 #[.val (.long p0), .second, .val (.long p1), .second, .val (.long p2), .second, .val (.long p3), .second, .val (.long p4), .second, .val (.long 536870923), .second, .val (.long jr0), .second, .unset, .unset, .unset, .unset, .unset, .unset, .unset, .unset, .unset, .unset] [(.long p1)])) _
    refine X1.ldc2Long hx hown (mvT hZ (tw_3 hw)) (g := (mkF m 16 #[.val (.long p0), .second, .val (.long p1), .second, .val (.long p2), .second, .val (.long p3), .second, .val (.long p4), .second, .val (.long 536870923), .second, .val (.long jr0), .second, .unset, .unset, .unset, .unset, .unset, .unset, .unset, .unset, .unset, .unset] [(.long p1)])) rfl (hb hby at_16) _ ?_
    show Steps p.tables e below (T1.setTop (mkF m 19 #[.val (.long p0), .second, .val (.long p1), .second, .val (.long p2), .second, .val (.long p3), .second, .val (.long p4), .second, .val (.long 536870923), .second, .val (.long jr0), .second, .unset, .unset, .unset, .unset, .unset, .unset, .unset, .unset, .unset, .unset] [(.long 9223372036854775807), (.long p1)])) _
    refine XS.land X1.here hx rfl (hb hby at_19) rfl ?_
    refine XS.lload X1.here hx rfl (hb hby at_20) rfl ?_
    show Steps p.tables e below (T1.setTop (mkF m 22 #[.val (.long p0), .second, .val (.long p1), .second, .val (.long p2), .second, .val (.long p3), .second, .val (.long p4), .second, .val (.long 536870923), .second, .val (.long jr0), .second, .unset, .unset, .unset, .unset, .unset, .unset, .unset, .unset, .unset, .unset] [(.long 536870923), (.long (p1 &&& (9223372036854775807 : Int64)))])) _
    refine own_lremM X1 hx rfl (hb hby at_22) rfl (by decide) ?_
    show Steps p.tables e below (T1.setTop (mkF m 23 #[.val (.long p0), .second, .val (.long p1), .second, .val (.long p2), .second, .val (.long p3), .second, .val (.long p4), .second, .val (.long 536870923), .second, .val (.long jr0), .second, .unset, .unset, .unset, .unset, .unset, .unset, .unset, .unset, .unset, .unset] [(.long ((p1 &&& (9223372036854775807 : Int64)) % (536870923 : Int64)))])) _
    rw [f3]
    refine XS.lstore X1.here hx rfl (hb hby at_23) rfl (l' := #[.val (.long p0), .second, .val (.long p1), .second, .val (.long p2), .second, .val (.long p3), .second, .val (.long p4), .second, .val (.long 536870923), .second, .val (.long jr0), .second, .val (.long jr1), .second, .unset, .unset, .unset, .unset, .unset, .unset, .unset, .unset]) rfl ?_
    refine XS.lload X1.here hx rfl (hb hby at_25) rfl ?_
    show Steps p.tables e below (T1.setTop (mkF m 27 #[.val (.long p0), .second, .val (.long p1), .second, .val (.long p2), .second, .val (.long p3), .second, .val (.long p4), .second, .val (.long 536870923), .second, .val (.long jr0), .second, .val (.long jr1), .second, .unset, .unset, .unset, .unset, .unset, .unset, .unset, .unset] [(.long p2)])) _
    refine X1.ldc2Long hx hown (mvT hZ (tw_3 hw)) (g := (mkF m 27 #[.val (.long p0), .second, .val (.long p1), .second, .val (.long p2), .second, .val (.long p3), .second, .val (.long p4), .second, .val (.long 536870923), .second, .val (.long jr0), .second, .val (.long jr1), .second, .unset, .unset, .unset, .unset, .unset, .unset, .unset, .unset] [(.long p2)])) rfl (hb hby at_27) _ ?_
    show Steps p.tables e below (T1.setTop (mkF m 30 #[.val (.long p0), .second, .val (.long p1), .second, .val (.long p2), .second, .val (.long p3), .second, .val (.long p4), .second, .val (.long 536870923), .second, .val (.long jr0), .second, .val (.long jr1), .second, .unset, .unset, .unset, .unset, .unset, .unset, .unset, .unset] [(.long 9223372036854775807), (.long p2)])) _
    refine XS.land X1.here hx rfl (hb hby at_30) rfl ?_
    refine XS.lload X1.here hx rfl (hb hby at_31) rfl ?_
    show Steps p.tables e below (T1.setTop (mkF m 33 #[.val (.long p0), .second, .val (.long p1), .second, .val (.long p2), .second, .val (.long p3), .second, .val (.long p4), .second, .val (.long 536870923), .second, .val (.long jr0), .second, .val (.long jr1), .second, .unset, .unset, .unset, .unset, .unset, .unset, .unset, .unset] [(.long 536870923), (.long (p2 &&& (9223372036854775807 : Int64)))])) _
    refine own_lremM X1 hx rfl (hb hby at_33) rfl (by decide) ?_
    show Steps p.tables e below (T1.setTop (mkF m 34 #[.val (.long p0), .second, .val (.long p1), .second, .val (.long p2), .second, .val (.long p3), .second, .val (.long p4), .second, .val (.long 536870923), .second, .val (.long jr0), .second, .val (.long jr1), .second, .unset, .unset, .unset, .unset, .unset, .unset, .unset, .unset] [(.long ((p2 &&& (9223372036854775807 : Int64)) % (536870923 : Int64)))])) _
    rw [f4]
    refine XS.lstore X1.here hx rfl (hb hby at_34) rfl (l' := #[.val (.long p0), .second, .val (.long p1), .second, .val (.long p2), .second, .val (.long p3), .second, .val (.long p4), .second, .val (.long 536870923), .second, .val (.long jr0), .second, .val (.long jr1), .second, .val (.long jr2), .second, .unset, .unset, .unset, .unset, .unset, .unset]) rfl ?_
    refine XS.lload X1.here hx rfl (hb hby at_36) rfl ?_
    show Steps p.tables e below (T1.setTop (mkF m 38 #[.val (.long p0), .second, .val (.long p1), .second, .val (.long p2), .second, .val (.long p3), .second, .val (.long p4), .second, .val (.long 536870923), .second, .val (.long jr0), .second, .val (.long jr1), .second, .val (.long jr2), .second, .unset, .unset, .unset, .unset, .unset, .unset] [(.long p3)])) _
    refine X1.ldc2Long hx hown (mvT hZ (tw_3 hw)) (g := (mkF m 38 #[.val (.long p0), .second, .val (.long p1), .second, .val (.long p2), .second, .val (.long p3), .second, .val (.long p4), .second, .val (.long 536870923), .second, .val (.long jr0), .second, .val (.long jr1), .second, .val (.long jr2), .second, .unset, .unset, .unset, .unset, .unset, .unset] [(.long p3)])) rfl (hb hby at_38) _ ?_
    show Steps p.tables e below (T1.setTop (mkF m 41 #[.val (.long p0), .second, .val (.long p1), .second, .val (.long p2), .second, .val (.long p3), .second, .val (.long p4), .second, .val (.long 536870923), .second, .val (.long jr0), .second, .val (.long jr1), .second, .val (.long jr2), .second, .unset, .unset, .unset, .unset, .unset, .unset] [(.long 9223372036854775807), (.long p3)])) _
    refine XS.land X1.here hx rfl (hb hby at_41) rfl ?_
    refine XS.lload X1.here hx rfl (hb hby at_42) rfl ?_
    show Steps p.tables e below (T1.setTop (mkF m 44 #[.val (.long p0), .second, .val (.long p1), .second, .val (.long p2), .second, .val (.long p3), .second, .val (.long p4), .second, .val (.long 536870923), .second, .val (.long jr0), .second, .val (.long jr1), .second, .val (.long jr2), .second, .unset, .unset, .unset, .unset, .unset, .unset] [(.long 536870923), (.long (p3 &&& (9223372036854775807 : Int64)))])) _
    refine own_lremM X1 hx rfl (hb hby at_44) rfl (by decide) ?_
    show Steps p.tables e below (T1.setTop (mkF m 45 #[.val (.long p0), .second, .val (.long p1), .second, .val (.long p2), .second, .val (.long p3), .second, .val (.long p4), .second, .val (.long 536870923), .second, .val (.long jr0), .second, .val (.long jr1), .second, .val (.long jr2), .second, .unset, .unset, .unset, .unset, .unset, .unset] [(.long ((p3 &&& (9223372036854775807 : Int64)) % (536870923 : Int64)))])) _
    rw [f5]
    refine XS.lstore X1.here hx rfl (hb hby at_45) rfl (l' := #[.val (.long p0), .second, .val (.long p1), .second, .val (.long p2), .second, .val (.long p3), .second, .val (.long p4), .second, .val (.long 536870923), .second, .val (.long jr0), .second, .val (.long jr1), .second, .val (.long jr2), .second, .val (.long jr3), .second, .unset, .unset, .unset, .unset]) rfl ?_
    refine XS.lload X1.here hx rfl (hb hby at_47) rfl ?_
    show Steps p.tables e below (T1.setTop (mkF m 49 #[.val (.long p0), .second, .val (.long p1), .second, .val (.long p2), .second, .val (.long p3), .second, .val (.long p4), .second, .val (.long 536870923), .second, .val (.long jr0), .second, .val (.long jr1), .second, .val (.long jr2), .second, .val (.long jr3), .second, .unset, .unset, .unset, .unset] [(.long p4)])) _
    refine X1.ldc2Long hx hown (mvT hZ (tw_3 hw)) (g := (mkF m 49 #[.val (.long p0), .second, .val (.long p1), .second, .val (.long p2), .second, .val (.long p3), .second, .val (.long p4), .second, .val (.long 536870923), .second, .val (.long jr0), .second, .val (.long jr1), .second, .val (.long jr2), .second, .val (.long jr3), .second, .unset, .unset, .unset, .unset] [(.long p4)])) rfl (hb hby at_49) _ ?_
    show Steps p.tables e below (T1.setTop (mkF m 52 #[.val (.long p0), .second, .val (.long p1), .second, .val (.long p2), .second, .val (.long p3), .second, .val (.long p4), .second, .val (.long 536870923), .second, .val (.long jr0), .second, .val (.long jr1), .second, .val (.long jr2), .second, .val (.long jr3), .second, .unset, .unset, .unset, .unset] [(.long 9223372036854775807), (.long p4)])) _
    refine XS.land X1.here hx rfl (hb hby at_52) rfl ?_
    refine XS.lload X1.here hx rfl (hb hby at_53) rfl ?_
    show Steps p.tables e below (T1.setTop (mkF m 55 #[.val (.long p0), .second, .val (.long p1), .second, .val (.long p2), .second, .val (.long p3), .second, .val (.long p4), .second, .val (.long 536870923), .second, .val (.long jr0), .second, .val (.long jr1), .second, .val (.long jr2), .second, .val (.long jr3), .second, .unset, .unset, .unset, .unset] [(.long 536870923), (.long (p4 &&& (9223372036854775807 : Int64)))])) _
    refine own_lremM X1 hx rfl (hb hby at_55) rfl (by decide) ?_
    show Steps p.tables e below (T1.setTop (mkF m 56 #[.val (.long p0), .second, .val (.long p1), .second, .val (.long p2), .second, .val (.long p3), .second, .val (.long p4), .second, .val (.long 536870923), .second, .val (.long jr0), .second, .val (.long jr1), .second, .val (.long jr2), .second, .val (.long jr3), .second, .unset, .unset, .unset, .unset] [(.long ((p4 &&& (9223372036854775807 : Int64)) % (536870923 : Int64)))])) _
    rw [f6]
    refine XS.lstore X1.here hx rfl (hb hby at_56) rfl (l' := #[.val (.long p0), .second, .val (.long p1), .second, .val (.long p2), .second, .val (.long p3), .second, .val (.long p4), .second, .val (.long 536870923), .second, .val (.long jr0), .second, .val (.long jr1), .second, .val (.long jr2), .second, .val (.long jr3), .second, .val (.long jr4), .second, .unset, .unset]) rfl ?_
    refine XS.iconst X1.here hx rfl (hb hby at_58) ?_
    show Steps p.tables e below (T1.setTop (mkF m 59 #[.val (.long p0), .second, .val (.long p1), .second, .val (.long p2), .second, .val (.long p3), .second, .val (.long p4), .second, .val (.long 536870923), .second, .val (.long jr0), .second, .val (.long jr1), .second, .val (.long jr2), .second, .val (.long jr3), .second, .val (.long jr4), .second, .unset, .unset] [(.int 2)])) _
    refine st2 _ ?_
    refine XS.astore X2.here hx rfl (hb hby at_61) rfl rfl (l' := #[.val (.long p0), .second, .val (.long p1), .second, .val (.long p2), .second, .val (.long p3), .second, .val (.long p4), .second, .val (.long 536870923), .second, .val (.long jr0), .second, .val (.long jr1), .second, .val (.long jr2), .second, .val (.long jr3), .second, .val (.long jr4), .second, .val (.ref b23), .unset]) rfl ?_
    refine XS.aload X2.here hx rfl (hb hby at_63) rfl rfl ?_
    refine XS.iconst X2.here hx rfl (hb hby at_65) ?_
    refine XS.lload X2.here hx rfl (hb hby at_66) rfl ?_
    show Steps p.tables e below (T2.setTop (mkF m 68 #[.val (.long p0), .second, .val (.long p1), .second, .val (.long p2), .second, .val (.long p3), .second, .val (.long p4), .second, .val (.long 536870923), .second, .val (.long jr0), .second, .val (.long jr1), .second, .val (.long jr2), .second, .val (.long jr3), .second, .val (.long jr4), .second, .val (.ref b23), .unset] [(.long jr0), (.int 0), (.ref b23)])) _
    refine st4 _ ?_
    refine XS.aload X4.here hx rfl (hb hby at_69) rfl rfl ?_
    refine XS.iconst X4.here hx rfl (hb hby at_71) ?_
    refine XS.lload X4.here hx rfl (hb hby at_72) rfl ?_
    show Steps p.tables e below (T4.setTop (mkF m 74 #[.val (.long p0), .second, .val (.long p1), .second, .val (.long p2), .second, .val (.long p3), .second, .val (.long p4), .second, .val (.long 536870923), .second, .val (.long jr0), .second, .val (.long jr1), .second, .val (.long jr2), .second, .val (.long jr3), .second, .val (.long jr4), .second, .val (.ref b23), .unset] [(.long jr1), (.int 1), (.ref b23)])) _
    refine st6 _ ?_
    refine XS.iconst X6.here hx rfl (hb hby at_75) ?_
    show Steps p.tables e below (T6.setTop (mkF m 76 #[.val (.long p0), .second, .val (.long p1), .second, .val (.long p2), .second, .val (.long p3), .second, .val (.long p4), .second, .val (.long 536870923), .second, .val (.long jr0), .second, .val (.long jr1), .second, .val (.long jr2), .second, .val (.long jr3), .second, .val (.long jr4), .second, .val (.ref b23), .unset] [(.int 2)])) _
    refine st7 _ ?_
    refine XS.astore X7.here hx rfl (hb hby at_78) rfl rfl (l' := #[.val (.long p0), .second, .val (.long p1), .second, .val (.long p2), .second, .val (.long p3), .second, .val (.long p4), .second, .val (.long 536870923), .second, .val (.long jr0), .second, .val (.long jr1), .second, .val (.long jr2), .second, .val (.long jr3), .second, .val (.long jr4), .second, .val (.ref b23), .val (.ref b25)]) rfl ?_
    refine XS.aload X7.here hx rfl (hb hby at_80) rfl rfl ?_
    refine XS.iconst X7.here hx rfl (hb hby at_82) ?_
    refine XS.lload X7.here hx rfl (hb hby at_83) rfl ?_
    show Steps p.tables e below (T7.setTop (mkF m 85 #[.val (.long p0), .second, .val (.long p1), .second, .val (.long p2), .second, .val (.long p3), .second, .val (.long p4), .second, .val (.long 536870923), .second, .val (.long jr0), .second, .val (.long jr1), .second, .val (.long jr2), .second, .val (.long jr3), .second, .val (.long jr4), .second, .val (.ref b23), .val (.ref b25)] [(.long jr2), (.int 0), (.ref b25)])) _
    refine st9 _ ?_
    refine XS.aload X9.here hx rfl (hb hby at_86) rfl rfl ?_
    refine XS.iconst X9.here hx rfl (hb hby at_88) ?_
    refine XS.lload X9.here hx rfl (hb hby at_89) rfl ?_
    show Steps p.tables e below (T9.setTop (mkF m 91 #[.val (.long p0), .second, .val (.long p1), .second, .val (.long p2), .second, .val (.long p3), .second, .val (.long p4), .second, .val (.long 536870923), .second, .val (.long jr0), .second, .val (.long jr1), .second, .val (.long jr2), .second, .val (.long jr3), .second, .val (.long jr4), .second, .val (.ref b23), .val (.ref b25)] [(.long jr3), (.int 1), (.ref b25)])) _
    refine st11 _ ?_
    refine XS.aload X11.here hx rfl (hb hby at_92) rfl rfl ?_
    refine XS.lload X11.here hx rfl (hb hby at_94) rfl ?_
    refine XS.aload X11.here hx rfl (hb hby at_96) rfl rfl ?_
    show Steps p.tables e below (T11.setTop (mkF m 98 #[.val (.long p0), .second, .val (.long p1), .second, .val (.long p2), .second, .val (.long p3), .second, .val (.long p4), .second, .val (.long 536870923), .second, .val (.long jr0), .second, .val (.long jr1), .second, .val (.long jr2), .second, .val (.long jr3), .second, .val (.long jr4), .second, .val (.ref b23), .val (.ref b25)] [(.ref b25), (.long jr4), (.ref b23)])) _
    refine st22 _ ?_
    refine XS.aload X22.here hx rfl (hb hby at_101) rfl rfl ?_
    show Steps p.tables e below (T22.setTop (mkF m 103 #[.val (.long p0), .second, .val (.long p1), .second, .val (.long p2), .second, .val (.long p3), .second, .val (.long p4), .second, .val (.long 536870923), .second, .val (.long jr0), .second, .val (.long jr1), .second, .val (.long jr2), .second, .val (.long jr3), .second, .val (.long jr4), .second, .val (.ref b23), .val (.ref b25)] [(.ref b23)])) _
    refine X22.arraylength hx (by exact Ar23.1) (State.isArrayOf_alike hZ.alike Ar23.2.1) (g := (mkF m 103 #[.val (.long p0), .second, .val (.long p1), .second, .val (.long p2), .second, .val (.long p3), .second, .val (.long p4), .second, .val (.long 536870923), .second, .val (.long jr0), .second, .val (.long jr1), .second, .val (.long jr2), .second, .val (.long jr3), .second, .val (.long jr4), .second, .val (.ref b23), .val (.ref b25)] [(.ref b23)])) rfl rfl (hb hby at_103) _ ?_
    rw [len_of S23 N23_]
    refine XS.iconst X22.here hx rfl (hb hby at_104) ?_
    refine XS.icmpNo X22.here hx rfl (hb hby at_105) rfl (by decide) ?_
    refine XS.aload X22.here hx rfl (hb hby at_108) rfl rfl ?_
    refine XS.iconst X22.here hx rfl (hb hby at_110) ?_
    show Steps p.tables e below (T22.setTop (mkF m 111 #[.val (.long p0), .second, .val (.long p1), .second, .val (.long p2), .second, .val (.long p3), .second, .val (.long p4), .second, .val (.long 536870923), .second, .val (.long jr0), .second, .val (.long jr1), .second, .val (.long jr2), .second, .val (.long jr3), .second, .val (.long jr4), .second, .val (.ref b23), .val (.ref b25)] [(.int 0), (.ref b23)])) _
    refine X22.laload hx (j := (0 : Int32)) (v := (.long jm0)) (by exact Ar24.1) (State.isArrayOf_alike hZ.alike Ar24.2.1) Ar24.2.2 hin24 hat24 (g := (mkF m 111 #[.val (.long p0), .second, .val (.long p1), .second, .val (.long p2), .second, .val (.long p3), .second, .val (.long p4), .second, .val (.long 536870923), .second, .val (.long jr0), .second, .val (.long jr1), .second, .val (.long jr2), .second, .val (.long jr3), .second, .val (.long jr4), .second, .val (.ref b23), .val (.ref b25)] [(.int 0), (.ref b23)])) rfl rfl (hb hby at_111) _ ?_
    refine XS.lload X22.here hx rfl (hb hby at_112) rfl ?_
    refine XS.lload X22.here hx rfl (hb hby at_114) rfl ?_
    refine XS.lload X22.here hx rfl (hb hby at_116) rfl ?_
    refine XS.lload X22.here hx rfl (hb hby at_118) rfl ?_
    show Steps p.tables e below (T22.setTop (mkF m 120 #[.val (.long p0), .second, .val (.long p1), .second, .val (.long p2), .second, .val (.long p3), .second, .val (.long p4), .second, .val (.long 536870923), .second, .val (.long jr0), .second, .val (.long jr1), .second, .val (.long jr2), .second, .val (.long jr3), .second, .val (.long jr4), .second, .val (.ref b23), .val (.ref b25)] [(.long 536870923), (.long jr2), (.long jr4), (.long jr0), (.long jm0)])) _
    refine st25 _ ?_
    show Steps p.tables e below (T25.setTop (mkF m 123 #[.val (.long p0), .second, .val (.long p1), .second, .val (.long p2), .second, .val (.long p3), .second, .val (.long p4), .second, .val (.long 536870923), .second, .val (.long jr0), .second, .val (.long jr1), .second, .val (.long jr2), .second, .val (.long jr3), .second, .val (.long jr4), .second, .val (.ref b23), .val (.ref b25)] [(.long jd0), (.long jm0)])) _
    refine XS.lcmp X25.here hx rfl (hb hby at_123) rfl ?_
    refine XS.ifNo X25.here hx rfl (hb hby at_124) rfl ((if0 _ _).trans (teq (f14 : (lcmpW jm0 jd0) = (0 : Int32))).2) ?_
    refine XS.aload X25.here hx rfl (hb hby at_127) rfl rfl ?_
    refine XS.iconst X25.here hx rfl (hb hby at_129) ?_
    show Steps p.tables e below (T25.setTop (mkF m 130 #[.val (.long p0), .second, .val (.long p1), .second, .val (.long p2), .second, .val (.long p3), .second, .val (.long p4), .second, .val (.long 536870923), .second, .val (.long jr0), .second, .val (.long jr1), .second, .val (.long jr2), .second, .val (.long jr3), .second, .val (.long jr4), .second, .val (.ref b23), .val (.ref b25)] [(.int 1), (.ref b23)])) _
    refine X25.laload hx (j := (1 : Int32)) (v := (.long jm1)) (by rw [e25]; exact Ar26.1) (State.isArrayOf_alike hZ.alike Ar26.2.1) Ar26.2.2 hin26 hat26 (g := (mkF m 130 #[.val (.long p0), .second, .val (.long p1), .second, .val (.long p2), .second, .val (.long p3), .second, .val (.long p4), .second, .val (.long 536870923), .second, .val (.long jr0), .second, .val (.long jr1), .second, .val (.long jr2), .second, .val (.long jr3), .second, .val (.long jr4), .second, .val (.ref b23), .val (.ref b25)] [(.int 1), (.ref b23)])) rfl rfl (hb hby at_130) _ ?_
    refine XS.lload X25.here hx rfl (hb hby at_131) rfl ?_
    refine XS.lload X25.here hx rfl (hb hby at_133) rfl ?_
    refine XS.lload X25.here hx rfl (hb hby at_135) rfl ?_
    refine XS.lload X25.here hx rfl (hb hby at_137) rfl ?_
    show Steps p.tables e below (T25.setTop (mkF m 139 #[.val (.long p0), .second, .val (.long p1), .second, .val (.long p2), .second, .val (.long p3), .second, .val (.long p4), .second, .val (.long 536870923), .second, .val (.long jr0), .second, .val (.long jr1), .second, .val (.long jr2), .second, .val (.long jr3), .second, .val (.long jr4), .second, .val (.ref b23), .val (.ref b25)] [(.long 536870923), (.long jr3), (.long jr4), (.long jr1), (.long jm1)])) _
    refine st27 _ ?_
    show Steps p.tables e below (T27.setTop (mkF m 142 #[.val (.long p0), .second, .val (.long p1), .second, .val (.long p2), .second, .val (.long p3), .second, .val (.long p4), .second, .val (.long 536870923), .second, .val (.long jr0), .second, .val (.long jr1), .second, .val (.long jr2), .second, .val (.long jr3), .second, .val (.long jr4), .second, .val (.ref b23), .val (.ref b25)] [(.long jx1), (.long jm1)])) _
    refine XS.lcmp X27.here hx rfl (hb hby at_142) rfl ?_
    refine XS.ifNo X27.here hx rfl (hb hby at_143) rfl ((if0 _ _).trans (teq (f19 : (lcmpW jm1 jx1) = (0 : Int32))).2) ?_
    refine XS.aload X27.here hx rfl (hb hby at_146) rfl rfl ?_
    refine XS.iconst X27.here hx rfl (hb hby at_148) ?_
    show Steps p.tables e below (T27.setTop (mkF m 149 #[.val (.long p0), .second, .val (.long p1), .second, .val (.long p2), .second, .val (.long p3), .second, .val (.long p4), .second, .val (.long 536870923), .second, .val (.long jr0), .second, .val (.long jr1), .second, .val (.long jr2), .second, .val (.long jr3), .second, .val (.long jr4), .second, .val (.ref b23), .val (.ref b25)] [(.int 0), (.ref b25)])) _
    refine X27.laload hx (j := (0 : Int32)) (v := (.long jr2)) (by rw [e27]; exact Ar29.1) (State.isArrayOf_alike hZ.alike Ar29.2.1) Ar29.2.2 hin29 hat29 (g := (mkF m 149 #[.val (.long p0), .second, .val (.long p1), .second, .val (.long p2), .second, .val (.long p3), .second, .val (.long p4), .second, .val (.long 536870923), .second, .val (.long jr0), .second, .val (.long jr1), .second, .val (.long jr2), .second, .val (.long jr3), .second, .val (.long jr4), .second, .val (.ref b23), .val (.ref b25)] [(.int 0), (.ref b25)])) rfl rfl (hb hby at_149) _ ?_
    refine XS.lload X27.here hx rfl (hb hby at_150) rfl ?_
    show Steps p.tables e below (T27.setTop (mkF m 152 #[.val (.long p0), .second, .val (.long p1), .second, .val (.long p2), .second, .val (.long p3), .second, .val (.long p4), .second, .val (.long 536870923), .second, .val (.long jr0), .second, .val (.long jr1), .second, .val (.long jr2), .second, .val (.long jr3), .second, .val (.long jr4), .second, .val (.ref b23), .val (.ref b25)] [(.long jr2), (.long jr2)])) _
    refine XS.lcmp X27.here hx rfl (hb hby at_152) rfl ?_
    refine XS.ifNo X27.here hx rfl (hb hby at_153) rfl ((if0 _ _).trans (teq (f20 : (lcmpW jr2 jr2) = (0 : Int32))).2) ?_
    refine XS.aload X27.here hx rfl (hb hby at_156) rfl rfl ?_
    refine XS.iconst X27.here hx rfl (hb hby at_158) ?_
    show Steps p.tables e below (T27.setTop (mkF m 159 #[.val (.long p0), .second, .val (.long p1), .second, .val (.long p2), .second, .val (.long p3), .second, .val (.long p4), .second, .val (.long 536870923), .second, .val (.long jr0), .second, .val (.long jr1), .second, .val (.long jr2), .second, .val (.long jr3), .second, .val (.long jr4), .second, .val (.ref b23), .val (.ref b25)] [(.int 1), (.ref b25)])) _
    refine X27.laload hx (j := (1 : Int32)) (v := (.long jr3)) (by rw [e27]; exact Ar30.1) (State.isArrayOf_alike hZ.alike Ar30.2.1) Ar30.2.2 hin30 hat30 (g := (mkF m 159 #[.val (.long p0), .second, .val (.long p1), .second, .val (.long p2), .second, .val (.long p3), .second, .val (.long p4), .second, .val (.long 536870923), .second, .val (.long jr0), .second, .val (.long jr1), .second, .val (.long jr2), .second, .val (.long jr3), .second, .val (.long jr4), .second, .val (.ref b23), .val (.ref b25)] [(.int 1), (.ref b25)])) rfl rfl (hb hby at_159) _ ?_
    refine XS.lload X27.here hx rfl (hb hby at_160) rfl ?_
    show Steps p.tables e below (T27.setTop (mkF m 162 #[.val (.long p0), .second, .val (.long p1), .second, .val (.long p2), .second, .val (.long p3), .second, .val (.long p4), .second, .val (.long 536870923), .second, .val (.long jr0), .second, .val (.long jr1), .second, .val (.long jr2), .second, .val (.long jr3), .second, .val (.long jr4), .second, .val (.ref b23), .val (.ref b25)] [(.long jr3), (.long jr3)])) _
    refine XS.lcmp X27.here hx rfl (hb hby at_162) rfl ?_
    refine XS.ifNo X27.here hx rfl (hb hby at_163) rfl ((if0 _ _).trans (teq (f21 : (lcmpW jr3 jr3) = (0 : Int32))).2) ?_
    refine XS.iconst X27.here hx rfl (hb hby at_166) ?_
    refine XS.goto X27.here hx rfl (pc0 := 167) (pc' := 171) rfl (hb hby at_167) (by decide) (by decide) ?_
    show Steps p.tables e below (T27.setTop (mkF m 171 #[.val (.long p0), .second, .val (.long p1), .second, .val (.long p2), .second, .val (.long p3), .second, .val (.long p4), .second, .val (.long 536870923), .second, .val (.long jr0), .second, .val (.long jr1), .second, .val (.long jr2), .second, .val (.long jr3), .second, .val (.long jr4), .second, .val (.ref b23), .val (.ref b25)] [(.int 1)])) _
    exact retN X27 hx (t := .boolean) Bd.returns (by simp) (hb hby at_171) hr
  · show QT n0 _ T27.heap _
    rw [e27]
    exact ⟨rfl, N27⟩
set_option maxRecDepth 65536 in
set_option maxHeartbeats 40000000 in
theorem rm0_32 (l : Launch) (Z : State) (a0 : Array Value) (hw : ∀ d ∈ tables_1, d.before a0 Z = true) (ws : List Jvm.Cond) (p0 : Int64) (p1 : Int64) (p2 : Int64) (p3 : Int64) (p4 : Int64) (jr0 : Int64) (jr1 : Int64) (jr2 : Int64) (jr3 : Int64) (jr4 : Int64) (jnf : Int64) (jm0 : Int64) (jm1 : Int64) (jt0 : Int64) (jd0 : Int64) (jt1 : Int64) (jd1 : Int64) (h0 : Heap) (n0 : Nat) (Z0 : n0 ≤ h0.size) (f1 : S_0 Z h0 (.long 536870923)) (f2 : ((p0 &&& (9223372036854775807 : Int64)) % (536870923 : Int64)) = jr0) (f3 : ((p1 &&& (9223372036854775807 : Int64)) % (536870923 : Int64)) = jr1) (f4 : ((p2 &&& (9223372036854775807 : Int64)) % (536870923 : Int64)) = jr2) (f5 : ((p3 &&& (9223372036854775807 : Int64)) % (536870923 : Int64)) = jr3) (f6 : ((p4 &&& (9223372036854775807 : Int64)) % (536870923 : Int64)) = jr4) (f7 : ¬ ((lcmpW jr4 (0 : Int64)) = (0 : Int32))) (f8 : ((536870923 : Int64) - jr4) = jnf) (f9 : ((jr0 + (jnf * jr2)) % (536870923 : Int64)) = jm0) (f10 : ((jr1 + (jnf * jr3)) % (536870923 : Int64)) = jm1) (f11 : ((jr4 * jr2) % (536870923 : Int64)) = jt0) (f12 : (jr0 - jt0) = jd0) (f13 : ¬ ((lcmpW jd0 (0 : Int64)) < (0 : Int32))) (f14 : (lcmpW jm0 jd0) = (0 : Int32)) (f15 : ((jr4 * jr3) % (536870923 : Int64)) = jt1) (f16 : (jr1 - jt1) = jd1) (f17 : ¬ ((lcmpW jd1 (0 : Int64)) < (0 : Int32))) (f18 : (lcmpW jm1 jd1) = (0 : Int32)) (f19 : (lcmpW jr2 jr2) = (0 : Int32)) (f20 : (lcmpW jr3 jr3) = (0 : Int32)) :
    MetFree l x (head1 (Jvm.Cond.code x code maxLocals ret :: ws) room_1) (fun a U => a = #[(.long p0), (.long p1), (.long p2), (.long p3), (.long p4)] ∧ Z.Warmed39 U.vm ∧ U.heap = h0) (fun _ _ _ _ _ => True) (fun _ U o U' => ∃ v L, o = .returned v ∧ QT n0 v U'.heap L ∧ FrameEnd U o U' L room_1.cells room_1.slots) := by
  refine MetFree.of_bodySF (plainFor_of_name pn_com_example_subsumption_subsumption_SquareSystemSubtractTimesPinLaw) hisR ?_
  intro p e s m args below meth c s₁ Bd hml0 hP hK
  obtain ⟨rfl, hZ, hh⟩ := hP
  have hx := Bd.exec
  have hby := Bd.bytes
  have hml : c.maxLocals = 24 := hml0
  have hown : s.vm.findClass "com/example/subsumption/subsumption/SquareSystemSubtractTimesPinLaw" = some m.cls := findClass_of_methodNamed Bd.named
  have hnm := (name_of_methodNamed Bd.named Bd.method).1
  have X0 : Stand p l e room_1 s m #[(.long p0), (.long p1), (.long p2), (.long p3), (.long p4)] below meth c s₁ [] 0 0 := Stand.of_body Bd
  have e0 : s₁.heap = h0 := by rw [← hh, Bd.state]; rfl
  have N0 := Fr.nil n0
  obtain ⟨T1, X1, e1, st1⟩ := getS2 X0 hx hZ hown (host := "") (Or.inl (tw_0 hw)) Via.refl e0 f1 (g := (mkF m 0 #[.val (.long p0), .second, .val (.long p1), .second, .val (.long p2), .second, .val (.long p3), .second, .val (.long p4), .second, .unset, .unset, .unset, .unset, .unset, .unset, .unset, .unset, .unset, .unset, .unset, .unset, .unset, .unset] [])) rfl (hb hby at_0)
  obtain ⟨T2, h2, k2, X2, e2, E2, A2, st2⟩ := newP X1 hx hZ (aty := .long) (tw_4 hw) e1 (g := (mkF m 59 #[.val (.long p0), .second, .val (.long p1), .second, .val (.long p2), .second, .val (.long p3), .second, .val (.long p4), .second, .val (.long 536870923), .second, .val (.long jr0), .second, .val (.long jr1), .second, .val (.long jr2), .second, .val (.long jr3), .second, .val (.long jr4), .second, .unset, .unset] [(.int 2)])) rfl (hb hby at_59) rfl (by decide : ¬ ((2 : Int32) < (0 : Int32))) (cap := 2) (by decide : (2 : Int32).toNatClampNeg ≤ 2) (by decide) (by decide) (by decide)
  obtain ⟨b28, g2⟩ : ∃ z, z = h0.size := ⟨_, rfl⟩
  rw [← g2] at A2 st2
  obtain ⟨kc29, gk2⟩ : ∃ z, z = k2 := ⟨_, rfl⟩
  rw [← gk2] at A2
  have sz_b28 : h0.size ≤ b28 := Nat.le_trans (Nat.le_refl _) (Nat.le_of_eq g2.symm)
  have g_b28 : n0 ≤ b28 := Nat.le_trans Z0 sz_b28
  have KK2 : Keep h0 h2 [] := (Keep.refl h0 []).ext E2
  have V2 : Arv Z h2 b28 kc29 .long (2 : Int32) [(.long 0), (.long 0)] (.long 0) := (Arv.new A2 (by decide)).pad (pad_rep [] (.long 0) 2)
  have va3 := V2
  obtain ⟨cl3, Ar3, q3, S3, N3_, H3, G3⟩ := va3
  have hin3 : ¬ ((0 : Int32) < 0 ∨ cl3.slots.size ≤ ((0 : Int32)).toNatClampNeg) := inb_of S3 ⟨by decide, by decide⟩
  obtain ⟨T4, h4, X4, e4, W4, st4⟩ := stJ X2 hx hZ e2 Ar3 (j := (0 : Int32)) hin3 (g := (mkF m 68 #[.val (.long p0), .second, .val (.long p1), .second, .val (.long p2), .second, .val (.long p3), .second, .val (.long p4), .second, .val (.long 536870923), .second, .val (.long jr0), .second, .val (.long jr1), .second, .val (.long jr2), .second, .val (.long jr3), .second, .val (.long jr4), .second, .val (.ref b28), .unset] [(.long jr0), (.int 0), (.ref b28)])) rfl rfl (hb hby at_68)
  have Vw4 : Arv Z h4 b28 kc29 .long (2 : Int32) [(.long jr0), (.long 0)] (.long 0) := Arv.set Ar3 q3 S3 N3_ H3 G3 rfl W4 0 rfl (Nat.le_of_ble_eq_true rfl)
  have KK4 : Keep h0 h4 [] := KK2.wr W4 (Or.inr sz_b28)
  have N4 := Fr.snoc X4 N0 g_b28
  have va5 := Vw4
  obtain ⟨cl5, Ar5, q5, S5, N5_, H5, G5⟩ := va5
  have hin5 : ¬ ((1 : Int32) < 0 ∨ cl5.slots.size ≤ ((1 : Int32)).toNatClampNeg) := inb_of S5 ⟨by decide, by decide⟩
  obtain ⟨T6, h6, X6, e6, W6, st6⟩ := stJ X4 hx hZ e4 Ar5 (j := (1 : Int32)) hin5 (g := (mkF m 74 #[.val (.long p0), .second, .val (.long p1), .second, .val (.long p2), .second, .val (.long p3), .second, .val (.long p4), .second, .val (.long 536870923), .second, .val (.long jr0), .second, .val (.long jr1), .second, .val (.long jr2), .second, .val (.long jr3), .second, .val (.long jr4), .second, .val (.ref b28), .unset] [(.long jr1), (.int 1), (.ref b28)])) rfl rfl (hb hby at_74)
  have Vw6 : Arv Z h6 b28 kc29 .long (2 : Int32) [(.long jr0), (.long jr1)] (.long 0) := Arv.set Ar5 q5 S5 N5_ H5 G5 rfl W6 1 rfl (Nat.le_of_ble_eq_true rfl)
  have KK6 : Keep h0 h6 [] := KK4.wr W6 (Or.inr sz_b28)
  have N6 := Fr.snoc X6 N4 g_b28
  obtain ⟨T7, h7, k7, X7, e7, E7, A7, st7⟩ := newP X6 hx hZ (aty := .long) (tw_4 hw) e6 (g := (mkF m 76 #[.val (.long p0), .second, .val (.long p1), .second, .val (.long p2), .second, .val (.long p3), .second, .val (.long p4), .second, .val (.long 536870923), .second, .val (.long jr0), .second, .val (.long jr1), .second, .val (.long jr2), .second, .val (.long jr3), .second, .val (.long jr4), .second, .val (.ref b28), .unset] [(.int 2)])) rfl (hb hby at_76) rfl (by decide : ¬ ((2 : Int32) < (0 : Int32))) (cap := 2) (by decide : (2 : Int32).toNatClampNeg ≤ 2) (by decide) (by decide) (by decide)
  obtain ⟨b30, g7⟩ : ∃ z, z = h6.size := ⟨_, rfl⟩
  rw [← g7] at A7 st7
  obtain ⟨kc31, gk7⟩ : ∃ z, z = k7 := ⟨_, rfl⟩
  rw [← gk7] at A7
  have sz_b30 : h0.size ≤ b30 := Nat.le_trans KK6.1 (Nat.le_of_eq g7.symm)
  have g_b30 : n0 ≤ b30 := Nat.le_trans Z0 sz_b30
  have KK7 : Keep h0 h7 [] := KK6.ext E7
  have V7 : Arv Z h7 b30 kc31 .long (2 : Int32) [(.long 0), (.long 0)] (.long 0) := (Arv.new A7 (by decide)).pad (pad_rep [] (.long 0) 2)
  have va8 := V7
  obtain ⟨cl8, Ar8, q8, S8, N8_, H8, G8⟩ := va8
  have hin8 : ¬ ((0 : Int32) < 0 ∨ cl8.slots.size ≤ ((0 : Int32)).toNatClampNeg) := inb_of S8 ⟨by decide, by decide⟩
  obtain ⟨T9, h9, X9, e9, W9, st9⟩ := stJ X7 hx hZ e7 Ar8 (j := (0 : Int32)) hin8 (g := (mkF m 85 #[.val (.long p0), .second, .val (.long p1), .second, .val (.long p2), .second, .val (.long p3), .second, .val (.long p4), .second, .val (.long 536870923), .second, .val (.long jr0), .second, .val (.long jr1), .second, .val (.long jr2), .second, .val (.long jr3), .second, .val (.long jr4), .second, .val (.ref b28), .val (.ref b30)] [(.long jr2), (.int 0), (.ref b30)])) rfl rfl (hb hby at_85)
  have Vw9 : Arv Z h9 b30 kc31 .long (2 : Int32) [(.long jr2), (.long 0)] (.long 0) := Arv.set Ar8 q8 S8 N8_ H8 G8 rfl W9 0 rfl (Nat.le_of_ble_eq_true rfl)
  have KK9 : Keep h0 h9 [] := KK7.wr W9 (Or.inr sz_b30)
  have N9 := Fr.snoc X9 N6 g_b30
  have va10 := Vw9
  obtain ⟨cl10, Ar10, q10, S10, N10_, H10, G10⟩ := va10
  have hin10 : ¬ ((1 : Int32) < 0 ∨ cl10.slots.size ≤ ((1 : Int32)).toNatClampNeg) := inb_of S10 ⟨by decide, by decide⟩
  obtain ⟨T11, h11, X11, e11, W11, st11⟩ := stJ X9 hx hZ e9 Ar10 (j := (1 : Int32)) hin10 (g := (mkF m 91 #[.val (.long p0), .second, .val (.long p1), .second, .val (.long p2), .second, .val (.long p3), .second, .val (.long p4), .second, .val (.long 536870923), .second, .val (.long jr0), .second, .val (.long jr1), .second, .val (.long jr2), .second, .val (.long jr3), .second, .val (.long jr4), .second, .val (.ref b28), .val (.ref b30)] [(.long jr3), (.int 1), (.ref b30)])) rfl rfl (hb hby at_91)
  have Vw11 : Arv Z h11 b30 kc31 .long (2 : Int32) [(.long jr2), (.long jr3)] (.long 0) := Arv.set Ar10 q10 S10 N10_ H10 G10 rfl W11 1 rfl (Nat.le_of_ble_eq_true rfl)
  have KK11 : Keep h0 h11 [] := KK9.wr W11 (Or.inr sz_b30)
  have N11 := Fr.snoc X11 N9 g_b30
  -- pc 98: com/example/subsumption/subsumption/SquareSystem.subtractTimes
  have u12 : S_0 Z h2 (.long 536870923) := Sta.ext E2 f1
  have u13 : S_0 Z h4 (.long 536870923) := Sta.wr W4 u12
  have u14 : S_0 Z h6 (.long 536870923) := Sta.wr W6 u13
  have u15 : S_0 Z h7 (.long 536870923) := Sta.ext E7 u14
  have u16 : S_0 Z h9 (.long 536870923) := Sta.wr W9 u15
  have u17 : S_0 Z h11 (.long 536870923) := Sta.wr W11 u16
  have u18 : Arv Z h7 b28 kc29 .long (2 : Int32) [(.long jr0), (.long jr1)] (.long 0) := Arv.ext Vw6 E7
  have ne19 : b28 ≠ b30 := Nat.ne_of_lt (Nat.lt_of_lt_of_le (Arv.lt Vw6) (Nat.le_of_eq g7.symm))
  have u20 : Arv Z h9 b28 kc29 .long (2 : Int32) [(.long jr0), (.long jr1)] (.long 0) := Arv.other u18 W9 ne19
  have u21 : Arv Z h11 b28 kc29 .long (2 : Int32) [(.long jr0), (.long jr1)] (.long 0) := Arv.other u20 W11 ne19
  obtain ⟨_, _, ⟨T22, L22, k22, n22⟩, -, X22, ⟨Lc22, hQ22, l22, y22, z22⟩, st22⟩ := Jvm.LawKit.callS X11 hx (y := M_0) hown (mvT hZ (tw_5 hw)) (mvT hZ (tw_6 hw)) (mvT hZ (tw_1 hw)) (mvT hZ (tw_7 hw)) (by decide) (backOf (W := 0) (rm1_13 l Z a0 hw [] b28 jr4 b30 jnf kc29 jr0 jr1 kc31 jr2 jr3 jm0 jm1 h11 n0 (Nat.le_trans Z0 KK11.1) f7 u17 f8 u21 Vw11 f9 g_b28 (Ne.symm ne19) f10) hZ (tw_7 hw) (tw_1 hw) (by decide) (by decide)) (g := (mkF m 98 #[.val (.long p0), .second, .val (.long p1), .second, .val (.long p2), .second, .val (.long p3), .second, .val (.long p4), .second, .val (.long 536870923), .second, .val (.long jr0), .second, .val (.long jr1), .second, .val (.long jr2), .second, .val (.long jr3), .second, .val (.long jr4), .second, .val (.ref b28), .val (.ref b30)] [(.ref b30), (.long jr4), (.ref b28)])) rfl (by rw [hml]; rfl) (argsL := [(.ref b28), (.long jr4), (.ref b30)]) (rest := []) (lenOf pd_0 rfl) rfl (by show 2 * 0 + _ ≤ _; exact Nat.le_of_eq rfl) (hb hby at_98) (fun _ _ => ⟨rfl, e11, (by decide : 2 + 0 ≤ _), (by decide : 4 + 0 ≤ _)⟩)
  dsimp only [Pt.U, Pt.locs, Pt.cells, Pt.slots] at X22 l22 y22 z22 st22 hQ22
  subst l22 y22 z22
  obtain ⟨rfl, Nq22, K22, o22_0⟩ := hQ22
  have N22 := Fr.app N11 Nq22
  have KK22 : Keep h0 T22.heap [] := KK11.trans K22 (fun x hx => (List.mem_cons.mp hx).elim (fun q => q ▸ (Or.inr sz_b28)) (fun hx => nomatch hx))
  have va23 := o22_0
  obtain ⟨cl23, Ar23, -, S23, N23_, -, -⟩ := va23
  have va24 := o22_0
  obtain ⟨cl24, Ar24, -, S24, -, H24, -⟩ := va24
  have hin24 : ¬ ((0 : Int32) < 0 ∨ cl24.slots.size ≤ ((0 : Int32)).toNatClampNeg) := inb_of S24 ⟨by decide, by decide⟩
  have hat24 : cl24.slots[((0 : Int32)).toNatClampNeg]? = some (.long jm0) := H24 _ (Nat.lt_of_not_le fun y => hin24 (Or.inr y))
  -- pc 120: com/example/subsumption/subsumption/SquareSystemSubtractTimesPinLaw.expected
  obtain ⟨_, _, ⟨T25, L25, k25, n25⟩, -, X25, ⟨Lc25, hQ25, l25, y25, z25⟩, st25⟩ := Jvm.LawKit.callS X22 hx (y := M_1) hown (mvT hZ (tw_8 hw)) (mvT hZ (tw_9 hw)) (mvT hZ (tw_10 hw)) (mvT hZ (tw_11 hw)) (by decide) (backOf (W := 2) (rm2_6 l Z a0 hw [] jr0 jr4 jr2 jt0 jd0 T22.heap n0 (Nat.le_trans Z0 KK22.1) f11 f12 f13) hZ (tw_11 hw) (tw_10 hw) (by decide) (by decide)) (g := (mkF m 120 #[.val (.long p0), .second, .val (.long p1), .second, .val (.long p2), .second, .val (.long p3), .second, .val (.long p4), .second, .val (.long 536870923), .second, .val (.long jr0), .second, .val (.long jr1), .second, .val (.long jr2), .second, .val (.long jr3), .second, .val (.long jr4), .second, .val (.ref b28), .val (.ref b30)] [(.long 536870923), (.long jr2), (.long jr4), (.long jr0), (.long jm0)])) rfl (by rw [hml]; rfl) (argsL := [(.long jr0), (.long jr4), (.long jr2), (.long 536870923)]) (rest := [(.long jm0)]) (lenOf pd_1 rfl) rfl (by show 2 * 0 + _ ≤ _; exact Nat.le_of_eq rfl) (hb hby at_120) (fun _ _ => ⟨rfl, rfl, (by decide : 2 + 0 ≤ _), (by decide : 4 + 0 ≤ _)⟩)
  dsimp only [Pt.U, Pt.locs, Pt.cells, Pt.slots] at X25 l25 y25 z25 st25 hQ25
  subst l25 y25 z25
  obtain ⟨rfl, Nq25, e25⟩ := hQ25
  have N25 := Fr.app N22 Nq25
  have va26 := o22_0
  obtain ⟨cl26, Ar26, -, S26, -, H26, -⟩ := va26
  have hin26 : ¬ ((1 : Int32) < 0 ∨ cl26.slots.size ≤ ((1 : Int32)).toNatClampNeg) := inb_of S26 ⟨by decide, by decide⟩
  have hat26 : cl26.slots[((1 : Int32)).toNatClampNeg]? = some (.long jm1) := H26 _ (Nat.lt_of_not_le fun y => hin26 (Or.inr y))
  -- pc 139: com/example/subsumption/subsumption/SquareSystemSubtractTimesPinLaw.expected
  obtain ⟨_, _, ⟨T27, L27, k27, n27⟩, -, X27, ⟨Lc27, hQ27, l27, y27, z27⟩, st27⟩ := Jvm.LawKit.callS X25 hx (y := M_1) hown (mvT hZ (tw_8 hw)) (mvT hZ (tw_9 hw)) (mvT hZ (tw_10 hw)) (mvT hZ (tw_11 hw)) (by decide) (backOf (W := 2) (rm2_7 l Z a0 hw [] jr1 jr4 jr3 jt1 jd1 T22.heap n0 (Nat.le_trans Z0 KK22.1) f15 f16 f17) hZ (tw_11 hw) (tw_10 hw) (by decide) (by decide)) (g := (mkF m 139 #[.val (.long p0), .second, .val (.long p1), .second, .val (.long p2), .second, .val (.long p3), .second, .val (.long p4), .second, .val (.long 536870923), .second, .val (.long jr0), .second, .val (.long jr1), .second, .val (.long jr2), .second, .val (.long jr3), .second, .val (.long jr4), .second, .val (.ref b28), .val (.ref b30)] [(.long 536870923), (.long jr3), (.long jr4), (.long jr1), (.long jm1)])) rfl (by rw [hml]; rfl) (argsL := [(.long jr1), (.long jr4), (.long jr3), (.long 536870923)]) (rest := [(.long jm1)]) (lenOf pd_1 rfl) rfl (by show 2 * 0 + _ ≤ _; exact Nat.le_of_eq rfl) (hb hby at_139) (fun _ _ => ⟨rfl, e25, (by decide : 2 + 0 ≤ _), (by decide : 4 + 0 ≤ _)⟩)
  dsimp only [Pt.U, Pt.locs, Pt.cells, Pt.slots] at X27 l27 y27 z27 st27 hQ27
  subst l27 y27 z27
  obtain ⟨rfl, Nq27, e27⟩ := hQ27
  have N27 := Fr.app N25 Nq27
  have u28 : Arv Z T22.heap b30 kc31 .long (2 : Int32) [(.long jr2), (.long jr3)] (.long 0) := Arv.keep Vw11 K22 (own_notin (Ne.symm ne19) List.not_mem_nil)
  have va29 := u28
  obtain ⟨cl29, Ar29, -, S29, -, H29, -⟩ := va29
  have hin29 : ¬ ((0 : Int32) < 0 ∨ cl29.slots.size ≤ ((0 : Int32)).toNatClampNeg) := inb_of S29 ⟨by decide, by decide⟩
  have hat29 : cl29.slots[((0 : Int32)).toNatClampNeg]? = some (.long jr2) := H29 _ (Nat.lt_of_not_le fun y => hin29 (Or.inr y))
  have va30 := u28
  obtain ⟨cl30, Ar30, -, S30, -, H30, -⟩ := va30
  have hin30 : ¬ ((1 : Int32) < 0 ∨ cl30.slots.size ≤ ((1 : Int32)).toNatClampNeg) := inb_of S30 ⟨by decide, by decide⟩
  have hat30 : cl30.slots[((1 : Int32)).toNatClampNeg]? = some (.long jr3) := H30 _ (Nat.lt_of_not_le fun y => hin30 (Or.inr y))
  obtain ⟨fs, hr, hrun, hended, hW, hsame⟩ := X27.leave (v := (some (.int 1))) (fun h => by rw [Bd.returns] at h; cases h)
  refine ⟨_, _, castTop (ef0_JJJJJ m p0 p1 p2 p3 p4) ?_, hrun, hended, _, _, rfl, ?_, ⟨_, rfl⟩, hW, hsame.mono (by decide) (by decide)⟩
  · show Steps p.tables e below (s₁.setTop (mkF m 0 #[.val (.long p0), .second, .val (.long p1), .second, .val (.long p2), .second, .val (.long p3), .second, .val (.long p4), .second, .unset, .unset, .unset, .unset, .unset, .unset, .unset, .unset, .unset, .unset, .unset, .unset, .unset, .unset] [])) _
    refine st1 _ ?_
    refine XS.lstore X1.here hx rfl (hb hby at_3) rfl (l' := #[.val (.long p0), .second, .val (.long p1), .second, .val (.long p2), .second, .val (.long p3), .second, .val (.long p4), .second, .val (.long 536870923), .second, .unset, .unset, .unset, .unset, .unset, .unset, .unset, .unset, .unset, .unset, .unset, .unset]) rfl ?_
    refine XS.lloadN X1.here hx rfl (hb hby at_5) rfl ?_
    show Steps p.tables e below (T1.setTop (mkF m 6 #[.val (.long p0), .second, .val (.long p1), .second, .val (.long p2), .second, .val (.long p3), .second, .val (.long p4), .second, .val (.long 536870923), .second, .unset, .unset, .unset, .unset, .unset, .unset, .unset, .unset, .unset, .unset, .unset, .unset] [(.long p0)])) _
    refine X1.ldc2Long hx hown (mvT hZ (tw_3 hw)) (g := (mkF m 6 #[.val (.long p0), .second, .val (.long p1), .second, .val (.long p2), .second, .val (.long p3), .second, .val (.long p4), .second, .val (.long 536870923), .second, .unset, .unset, .unset, .unset, .unset, .unset, .unset, .unset, .unset, .unset, .unset, .unset] [(.long p0)])) rfl (hb hby at_6) _ ?_
    show Steps p.tables e below (T1.setTop (mkF m 9 #[.val (.long p0), .second, .val (.long p1), .second, .val (.long p2), .second, .val (.long p3), .second, .val (.long p4), .second, .val (.long 536870923), .second, .unset, .unset, .unset, .unset, .unset, .unset, .unset, .unset, .unset, .unset, .unset, .unset] [(.long 9223372036854775807), (.long p0)])) _
    refine XS.land X1.here hx rfl (hb hby at_9) rfl ?_
    refine XS.lload X1.here hx rfl (hb hby at_10) rfl ?_
    show Steps p.tables e below (T1.setTop (mkF m 12 #[.val (.long p0), .second, .val (.long p1), .second, .val (.long p2), .second, .val (.long p3), .second, .val (.long p4), .second, .val (.long 536870923), .second, .unset, .unset, .unset, .unset, .unset, .unset, .unset, .unset, .unset, .unset, .unset, .unset] [(.long 536870923), (.long (p0 &&& (9223372036854775807 : Int64)))])) _
    refine own_lremM X1 hx rfl (hb hby at_12) rfl (by decide) ?_
    show Steps p.tables e below (T1.setTop (mkF m 13 #[.val (.long p0), .second, .val (.long p1), .second, .val (.long p2), .second, .val (.long p3), .second, .val (.long p4), .second, .val (.long 536870923), .second, .unset, .unset, .unset, .unset, .unset, .unset, .unset, .unset, .unset, .unset, .unset, .unset] [(.long ((p0 &&& (9223372036854775807 : Int64)) % (536870923 : Int64)))])) _
    rw [f2]
    refine XS.lstore X1.here hx rfl (hb hby at_13) rfl (l' := #[.val (.long p0), .second, .val (.long p1), .second, .val (.long p2), .second, .val (.long p3), .second, .val (.long p4), .second, .val (.long 536870923), .second, .val (.long jr0), .second, .unset, .unset, .unset, .unset, .unset, .unset, .unset, .unset, .unset, .unset]) rfl ?_
    refine XS.lloadN X1.here hx rfl (hb hby at_15) rfl ?_
    show Steps p.tables e below (T1.setTop (mkF m 16 #[.val (.long p0), .second, .val (.long p1), .second, .val (.long p2), .second, .val (.long p3), .second, .val (.long p4), .second, .val (.long 536870923), .second, .val (.long jr0), .second, .unset, .unset, .unset, .unset, .unset, .unset, .unset, .unset, .unset, .unset] [(.long p1)])) _
    refine X1.ldc2Long hx hown (mvT hZ (tw_3 hw)) (g := (mkF m 16 #[.val (.long p0), .second, .val (.long p1), .second, .val (.long p2), .second, .val (.long p3), .second, .val (.long p4), .second, .val (.long 536870923), .second, .val (.long jr0), .second, .unset, .unset, .unset, .unset, .unset, .unset, .unset, .unset, .unset, .unset] [(.long p1)])) rfl (hb hby at_16) _ ?_
    show Steps p.tables e below (T1.setTop (mkF m 19 #[.val (.long p0), .second, .val (.long p1), .second, .val (.long p2), .second, .val (.long p3), .second, .val (.long p4), .second, .val (.long 536870923), .second, .val (.long jr0), .second, .unset, .unset, .unset, .unset, .unset, .unset, .unset, .unset, .unset, .unset] [(.long 9223372036854775807), (.long p1)])) _
    refine XS.land X1.here hx rfl (hb hby at_19) rfl ?_
    refine XS.lload X1.here hx rfl (hb hby at_20) rfl ?_
    show Steps p.tables e below (T1.setTop (mkF m 22 #[.val (.long p0), .second, .val (.long p1), .second, .val (.long p2), .second, .val (.long p3), .second, .val (.long p4), .second, .val (.long 536870923), .second, .val (.long jr0), .second, .unset, .unset, .unset, .unset, .unset, .unset, .unset, .unset, .unset, .unset] [(.long 536870923), (.long (p1 &&& (9223372036854775807 : Int64)))])) _
    refine own_lremM X1 hx rfl (hb hby at_22) rfl (by decide) ?_
    show Steps p.tables e below (T1.setTop (mkF m 23 #[.val (.long p0), .second, .val (.long p1), .second, .val (.long p2), .second, .val (.long p3), .second, .val (.long p4), .second, .val (.long 536870923), .second, .val (.long jr0), .second, .unset, .unset, .unset, .unset, .unset, .unset, .unset, .unset, .unset, .unset] [(.long ((p1 &&& (9223372036854775807 : Int64)) % (536870923 : Int64)))])) _
    rw [f3]
    refine XS.lstore X1.here hx rfl (hb hby at_23) rfl (l' := #[.val (.long p0), .second, .val (.long p1), .second, .val (.long p2), .second, .val (.long p3), .second, .val (.long p4), .second, .val (.long 536870923), .second, .val (.long jr0), .second, .val (.long jr1), .second, .unset, .unset, .unset, .unset, .unset, .unset, .unset, .unset]) rfl ?_
    refine XS.lload X1.here hx rfl (hb hby at_25) rfl ?_
    show Steps p.tables e below (T1.setTop (mkF m 27 #[.val (.long p0), .second, .val (.long p1), .second, .val (.long p2), .second, .val (.long p3), .second, .val (.long p4), .second, .val (.long 536870923), .second, .val (.long jr0), .second, .val (.long jr1), .second, .unset, .unset, .unset, .unset, .unset, .unset, .unset, .unset] [(.long p2)])) _
    refine X1.ldc2Long hx hown (mvT hZ (tw_3 hw)) (g := (mkF m 27 #[.val (.long p0), .second, .val (.long p1), .second, .val (.long p2), .second, .val (.long p3), .second, .val (.long p4), .second, .val (.long 536870923), .second, .val (.long jr0), .second, .val (.long jr1), .second, .unset, .unset, .unset, .unset, .unset, .unset, .unset, .unset] [(.long p2)])) rfl (hb hby at_27) _ ?_
    show Steps p.tables e below (T1.setTop (mkF m 30 #[.val (.long p0), .second, .val (.long p1), .second, .val (.long p2), .second, .val (.long p3), .second, .val (.long p4), .second, .val (.long 536870923), .second, .val (.long jr0), .second, .val (.long jr1), .second, .unset, .unset, .unset, .unset, .unset, .unset, .unset, .unset] [(.long 9223372036854775807), (.long p2)])) _
    refine XS.land X1.here hx rfl (hb hby at_30) rfl ?_
    refine XS.lload X1.here hx rfl (hb hby at_31) rfl ?_
    show Steps p.tables e below (T1.setTop (mkF m 33 #[.val (.long p0), .second, .val (.long p1), .second, .val (.long p2), .second, .val (.long p3), .second, .val (.long p4), .second, .val (.long 536870923), .second, .val (.long jr0), .second, .val (.long jr1), .second, .unset, .unset, .unset, .unset, .unset, .unset, .unset, .unset] [(.long 536870923), (.long (p2 &&& (9223372036854775807 : Int64)))])) _
    refine own_lremM X1 hx rfl (hb hby at_33) rfl (by decide) ?_
    show Steps p.tables e below (T1.setTop (mkF m 34 #[.val (.long p0), .second, .val (.long p1), .second, .val (.long p2), .second, .val (.long p3), .second, .val (.long p4), .second, .val (.long 536870923), .second, .val (.long jr0), .second, .val (.long jr1), .second, .unset, .unset, .unset, .unset, .unset, .unset, .unset, .unset] [(.long ((p2 &&& (9223372036854775807 : Int64)) % (536870923 : Int64)))])) _
    rw [f4]
    refine XS.lstore X1.here hx rfl (hb hby at_34) rfl (l' := #[.val (.long p0), .second, .val (.long p1), .second, .val (.long p2), .second, .val (.long p3), .second, .val (.long p4), .second, .val (.long 536870923), .second, .val (.long jr0), .second, .val (.long jr1), .second, .val (.long jr2), .second, .unset, .unset, .unset, .unset, .unset, .unset]) rfl ?_
    refine XS.lload X1.here hx rfl (hb hby at_36) rfl ?_
    show Steps p.tables e below (T1.setTop (mkF m 38 #[.val (.long p0), .second, .val (.long p1), .second, .val (.long p2), .second, .val (.long p3), .second, .val (.long p4), .second, .val (.long 536870923), .second, .val (.long jr0), .second, .val (.long jr1), .second, .val (.long jr2), .second, .unset, .unset, .unset, .unset, .unset, .unset] [(.long p3)])) _
    refine X1.ldc2Long hx hown (mvT hZ (tw_3 hw)) (g := (mkF m 38 #[.val (.long p0), .second, .val (.long p1), .second, .val (.long p2), .second, .val (.long p3), .second, .val (.long p4), .second, .val (.long 536870923), .second, .val (.long jr0), .second, .val (.long jr1), .second, .val (.long jr2), .second, .unset, .unset, .unset, .unset, .unset, .unset] [(.long p3)])) rfl (hb hby at_38) _ ?_
    show Steps p.tables e below (T1.setTop (mkF m 41 #[.val (.long p0), .second, .val (.long p1), .second, .val (.long p2), .second, .val (.long p3), .second, .val (.long p4), .second, .val (.long 536870923), .second, .val (.long jr0), .second, .val (.long jr1), .second, .val (.long jr2), .second, .unset, .unset, .unset, .unset, .unset, .unset] [(.long 9223372036854775807), (.long p3)])) _
    refine XS.land X1.here hx rfl (hb hby at_41) rfl ?_
    refine XS.lload X1.here hx rfl (hb hby at_42) rfl ?_
    show Steps p.tables e below (T1.setTop (mkF m 44 #[.val (.long p0), .second, .val (.long p1), .second, .val (.long p2), .second, .val (.long p3), .second, .val (.long p4), .second, .val (.long 536870923), .second, .val (.long jr0), .second, .val (.long jr1), .second, .val (.long jr2), .second, .unset, .unset, .unset, .unset, .unset, .unset] [(.long 536870923), (.long (p3 &&& (9223372036854775807 : Int64)))])) _
    refine own_lremM X1 hx rfl (hb hby at_44) rfl (by decide) ?_
    show Steps p.tables e below (T1.setTop (mkF m 45 #[.val (.long p0), .second, .val (.long p1), .second, .val (.long p2), .second, .val (.long p3), .second, .val (.long p4), .second, .val (.long 536870923), .second, .val (.long jr0), .second, .val (.long jr1), .second, .val (.long jr2), .second, .unset, .unset, .unset, .unset, .unset, .unset] [(.long ((p3 &&& (9223372036854775807 : Int64)) % (536870923 : Int64)))])) _
    rw [f5]
    refine XS.lstore X1.here hx rfl (hb hby at_45) rfl (l' := #[.val (.long p0), .second, .val (.long p1), .second, .val (.long p2), .second, .val (.long p3), .second, .val (.long p4), .second, .val (.long 536870923), .second, .val (.long jr0), .second, .val (.long jr1), .second, .val (.long jr2), .second, .val (.long jr3), .second, .unset, .unset, .unset, .unset]) rfl ?_
    refine XS.lload X1.here hx rfl (hb hby at_47) rfl ?_
    show Steps p.tables e below (T1.setTop (mkF m 49 #[.val (.long p0), .second, .val (.long p1), .second, .val (.long p2), .second, .val (.long p3), .second, .val (.long p4), .second, .val (.long 536870923), .second, .val (.long jr0), .second, .val (.long jr1), .second, .val (.long jr2), .second, .val (.long jr3), .second, .unset, .unset, .unset, .unset] [(.long p4)])) _
    refine X1.ldc2Long hx hown (mvT hZ (tw_3 hw)) (g := (mkF m 49 #[.val (.long p0), .second, .val (.long p1), .second, .val (.long p2), .second, .val (.long p3), .second, .val (.long p4), .second, .val (.long 536870923), .second, .val (.long jr0), .second, .val (.long jr1), .second, .val (.long jr2), .second, .val (.long jr3), .second, .unset, .unset, .unset, .unset] [(.long p4)])) rfl (hb hby at_49) _ ?_
    show Steps p.tables e below (T1.setTop (mkF m 52 #[.val (.long p0), .second, .val (.long p1), .second, .val (.long p2), .second, .val (.long p3), .second, .val (.long p4), .second, .val (.long 536870923), .second, .val (.long jr0), .second, .val (.long jr1), .second, .val (.long jr2), .second, .val (.long jr3), .second, .unset, .unset, .unset, .unset] [(.long 9223372036854775807), (.long p4)])) _
    refine XS.land X1.here hx rfl (hb hby at_52) rfl ?_
    refine XS.lload X1.here hx rfl (hb hby at_53) rfl ?_
    show Steps p.tables e below (T1.setTop (mkF m 55 #[.val (.long p0), .second, .val (.long p1), .second, .val (.long p2), .second, .val (.long p3), .second, .val (.long p4), .second, .val (.long 536870923), .second, .val (.long jr0), .second, .val (.long jr1), .second, .val (.long jr2), .second, .val (.long jr3), .second, .unset, .unset, .unset, .unset] [(.long 536870923), (.long (p4 &&& (9223372036854775807 : Int64)))])) _
    refine own_lremM X1 hx rfl (hb hby at_55) rfl (by decide) ?_
    show Steps p.tables e below (T1.setTop (mkF m 56 #[.val (.long p0), .second, .val (.long p1), .second, .val (.long p2), .second, .val (.long p3), .second, .val (.long p4), .second, .val (.long 536870923), .second, .val (.long jr0), .second, .val (.long jr1), .second, .val (.long jr2), .second, .val (.long jr3), .second, .unset, .unset, .unset, .unset] [(.long ((p4 &&& (9223372036854775807 : Int64)) % (536870923 : Int64)))])) _
    rw [f6]
    refine XS.lstore X1.here hx rfl (hb hby at_56) rfl (l' := #[.val (.long p0), .second, .val (.long p1), .second, .val (.long p2), .second, .val (.long p3), .second, .val (.long p4), .second, .val (.long 536870923), .second, .val (.long jr0), .second, .val (.long jr1), .second, .val (.long jr2), .second, .val (.long jr3), .second, .val (.long jr4), .second, .unset, .unset]) rfl ?_
    refine XS.iconst X1.here hx rfl (hb hby at_58) ?_
    show Steps p.tables e below (T1.setTop (mkF m 59 #[.val (.long p0), .second, .val (.long p1), .second, .val (.long p2), .second, .val (.long p3), .second, .val (.long p4), .second, .val (.long 536870923), .second, .val (.long jr0), .second, .val (.long jr1), .second, .val (.long jr2), .second, .val (.long jr3), .second, .val (.long jr4), .second, .unset, .unset] [(.int 2)])) _
    refine st2 _ ?_
    refine XS.astore X2.here hx rfl (hb hby at_61) rfl rfl (l' := #[.val (.long p0), .second, .val (.long p1), .second, .val (.long p2), .second, .val (.long p3), .second, .val (.long p4), .second, .val (.long 536870923), .second, .val (.long jr0), .second, .val (.long jr1), .second, .val (.long jr2), .second, .val (.long jr3), .second, .val (.long jr4), .second, .val (.ref b28), .unset]) rfl ?_
    refine XS.aload X2.here hx rfl (hb hby at_63) rfl rfl ?_
    refine XS.iconst X2.here hx rfl (hb hby at_65) ?_
    refine XS.lload X2.here hx rfl (hb hby at_66) rfl ?_
    show Steps p.tables e below (T2.setTop (mkF m 68 #[.val (.long p0), .second, .val (.long p1), .second, .val (.long p2), .second, .val (.long p3), .second, .val (.long p4), .second, .val (.long 536870923), .second, .val (.long jr0), .second, .val (.long jr1), .second, .val (.long jr2), .second, .val (.long jr3), .second, .val (.long jr4), .second, .val (.ref b28), .unset] [(.long jr0), (.int 0), (.ref b28)])) _
    refine st4 _ ?_
    refine XS.aload X4.here hx rfl (hb hby at_69) rfl rfl ?_
    refine XS.iconst X4.here hx rfl (hb hby at_71) ?_
    refine XS.lload X4.here hx rfl (hb hby at_72) rfl ?_
    show Steps p.tables e below (T4.setTop (mkF m 74 #[.val (.long p0), .second, .val (.long p1), .second, .val (.long p2), .second, .val (.long p3), .second, .val (.long p4), .second, .val (.long 536870923), .second, .val (.long jr0), .second, .val (.long jr1), .second, .val (.long jr2), .second, .val (.long jr3), .second, .val (.long jr4), .second, .val (.ref b28), .unset] [(.long jr1), (.int 1), (.ref b28)])) _
    refine st6 _ ?_
    refine XS.iconst X6.here hx rfl (hb hby at_75) ?_
    show Steps p.tables e below (T6.setTop (mkF m 76 #[.val (.long p0), .second, .val (.long p1), .second, .val (.long p2), .second, .val (.long p3), .second, .val (.long p4), .second, .val (.long 536870923), .second, .val (.long jr0), .second, .val (.long jr1), .second, .val (.long jr2), .second, .val (.long jr3), .second, .val (.long jr4), .second, .val (.ref b28), .unset] [(.int 2)])) _
    refine st7 _ ?_
    refine XS.astore X7.here hx rfl (hb hby at_78) rfl rfl (l' := #[.val (.long p0), .second, .val (.long p1), .second, .val (.long p2), .second, .val (.long p3), .second, .val (.long p4), .second, .val (.long 536870923), .second, .val (.long jr0), .second, .val (.long jr1), .second, .val (.long jr2), .second, .val (.long jr3), .second, .val (.long jr4), .second, .val (.ref b28), .val (.ref b30)]) rfl ?_
    refine XS.aload X7.here hx rfl (hb hby at_80) rfl rfl ?_
    refine XS.iconst X7.here hx rfl (hb hby at_82) ?_
    refine XS.lload X7.here hx rfl (hb hby at_83) rfl ?_
    show Steps p.tables e below (T7.setTop (mkF m 85 #[.val (.long p0), .second, .val (.long p1), .second, .val (.long p2), .second, .val (.long p3), .second, .val (.long p4), .second, .val (.long 536870923), .second, .val (.long jr0), .second, .val (.long jr1), .second, .val (.long jr2), .second, .val (.long jr3), .second, .val (.long jr4), .second, .val (.ref b28), .val (.ref b30)] [(.long jr2), (.int 0), (.ref b30)])) _
    refine st9 _ ?_
    refine XS.aload X9.here hx rfl (hb hby at_86) rfl rfl ?_
    refine XS.iconst X9.here hx rfl (hb hby at_88) ?_
    refine XS.lload X9.here hx rfl (hb hby at_89) rfl ?_
    show Steps p.tables e below (T9.setTop (mkF m 91 #[.val (.long p0), .second, .val (.long p1), .second, .val (.long p2), .second, .val (.long p3), .second, .val (.long p4), .second, .val (.long 536870923), .second, .val (.long jr0), .second, .val (.long jr1), .second, .val (.long jr2), .second, .val (.long jr3), .second, .val (.long jr4), .second, .val (.ref b28), .val (.ref b30)] [(.long jr3), (.int 1), (.ref b30)])) _
    refine st11 _ ?_
    refine XS.aload X11.here hx rfl (hb hby at_92) rfl rfl ?_
    refine XS.lload X11.here hx rfl (hb hby at_94) rfl ?_
    refine XS.aload X11.here hx rfl (hb hby at_96) rfl rfl ?_
    show Steps p.tables e below (T11.setTop (mkF m 98 #[.val (.long p0), .second, .val (.long p1), .second, .val (.long p2), .second, .val (.long p3), .second, .val (.long p4), .second, .val (.long 536870923), .second, .val (.long jr0), .second, .val (.long jr1), .second, .val (.long jr2), .second, .val (.long jr3), .second, .val (.long jr4), .second, .val (.ref b28), .val (.ref b30)] [(.ref b30), (.long jr4), (.ref b28)])) _
    refine st22 _ ?_
    refine XS.aload X22.here hx rfl (hb hby at_101) rfl rfl ?_
    show Steps p.tables e below (T22.setTop (mkF m 103 #[.val (.long p0), .second, .val (.long p1), .second, .val (.long p2), .second, .val (.long p3), .second, .val (.long p4), .second, .val (.long 536870923), .second, .val (.long jr0), .second, .val (.long jr1), .second, .val (.long jr2), .second, .val (.long jr3), .second, .val (.long jr4), .second, .val (.ref b28), .val (.ref b30)] [(.ref b28)])) _
    refine X22.arraylength hx (by exact Ar23.1) (State.isArrayOf_alike hZ.alike Ar23.2.1) (g := (mkF m 103 #[.val (.long p0), .second, .val (.long p1), .second, .val (.long p2), .second, .val (.long p3), .second, .val (.long p4), .second, .val (.long 536870923), .second, .val (.long jr0), .second, .val (.long jr1), .second, .val (.long jr2), .second, .val (.long jr3), .second, .val (.long jr4), .second, .val (.ref b28), .val (.ref b30)] [(.ref b28)])) rfl rfl (hb hby at_103) _ ?_
    rw [len_of S23 N23_]
    refine XS.iconst X22.here hx rfl (hb hby at_104) ?_
    refine XS.icmpNo X22.here hx rfl (hb hby at_105) rfl (by decide) ?_
    refine XS.aload X22.here hx rfl (hb hby at_108) rfl rfl ?_
    refine XS.iconst X22.here hx rfl (hb hby at_110) ?_
    show Steps p.tables e below (T22.setTop (mkF m 111 #[.val (.long p0), .second, .val (.long p1), .second, .val (.long p2), .second, .val (.long p3), .second, .val (.long p4), .second, .val (.long 536870923), .second, .val (.long jr0), .second, .val (.long jr1), .second, .val (.long jr2), .second, .val (.long jr3), .second, .val (.long jr4), .second, .val (.ref b28), .val (.ref b30)] [(.int 0), (.ref b28)])) _
    refine X22.laload hx (j := (0 : Int32)) (v := (.long jm0)) (by exact Ar24.1) (State.isArrayOf_alike hZ.alike Ar24.2.1) Ar24.2.2 hin24 hat24 (g := (mkF m 111 #[.val (.long p0), .second, .val (.long p1), .second, .val (.long p2), .second, .val (.long p3), .second, .val (.long p4), .second, .val (.long 536870923), .second, .val (.long jr0), .second, .val (.long jr1), .second, .val (.long jr2), .second, .val (.long jr3), .second, .val (.long jr4), .second, .val (.ref b28), .val (.ref b30)] [(.int 0), (.ref b28)])) rfl rfl (hb hby at_111) _ ?_
    refine XS.lload X22.here hx rfl (hb hby at_112) rfl ?_
    refine XS.lload X22.here hx rfl (hb hby at_114) rfl ?_
    refine XS.lload X22.here hx rfl (hb hby at_116) rfl ?_
    refine XS.lload X22.here hx rfl (hb hby at_118) rfl ?_
    show Steps p.tables e below (T22.setTop (mkF m 120 #[.val (.long p0), .second, .val (.long p1), .second, .val (.long p2), .second, .val (.long p3), .second, .val (.long p4), .second, .val (.long 536870923), .second, .val (.long jr0), .second, .val (.long jr1), .second, .val (.long jr2), .second, .val (.long jr3), .second, .val (.long jr4), .second, .val (.ref b28), .val (.ref b30)] [(.long 536870923), (.long jr2), (.long jr4), (.long jr0), (.long jm0)])) _
    refine st25 _ ?_
    show Steps p.tables e below (T25.setTop (mkF m 123 #[.val (.long p0), .second, .val (.long p1), .second, .val (.long p2), .second, .val (.long p3), .second, .val (.long p4), .second, .val (.long 536870923), .second, .val (.long jr0), .second, .val (.long jr1), .second, .val (.long jr2), .second, .val (.long jr3), .second, .val (.long jr4), .second, .val (.ref b28), .val (.ref b30)] [(.long jd0), (.long jm0)])) _
    refine XS.lcmp X25.here hx rfl (hb hby at_123) rfl ?_
    refine XS.ifNo X25.here hx rfl (hb hby at_124) rfl ((if0 _ _).trans (teq (f14 : (lcmpW jm0 jd0) = (0 : Int32))).2) ?_
    refine XS.aload X25.here hx rfl (hb hby at_127) rfl rfl ?_
    refine XS.iconst X25.here hx rfl (hb hby at_129) ?_
    show Steps p.tables e below (T25.setTop (mkF m 130 #[.val (.long p0), .second, .val (.long p1), .second, .val (.long p2), .second, .val (.long p3), .second, .val (.long p4), .second, .val (.long 536870923), .second, .val (.long jr0), .second, .val (.long jr1), .second, .val (.long jr2), .second, .val (.long jr3), .second, .val (.long jr4), .second, .val (.ref b28), .val (.ref b30)] [(.int 1), (.ref b28)])) _
    refine X25.laload hx (j := (1 : Int32)) (v := (.long jm1)) (by rw [e25]; exact Ar26.1) (State.isArrayOf_alike hZ.alike Ar26.2.1) Ar26.2.2 hin26 hat26 (g := (mkF m 130 #[.val (.long p0), .second, .val (.long p1), .second, .val (.long p2), .second, .val (.long p3), .second, .val (.long p4), .second, .val (.long 536870923), .second, .val (.long jr0), .second, .val (.long jr1), .second, .val (.long jr2), .second, .val (.long jr3), .second, .val (.long jr4), .second, .val (.ref b28), .val (.ref b30)] [(.int 1), (.ref b28)])) rfl rfl (hb hby at_130) _ ?_
    refine XS.lload X25.here hx rfl (hb hby at_131) rfl ?_
    refine XS.lload X25.here hx rfl (hb hby at_133) rfl ?_
    refine XS.lload X25.here hx rfl (hb hby at_135) rfl ?_
    refine XS.lload X25.here hx rfl (hb hby at_137) rfl ?_
    show Steps p.tables e below (T25.setTop (mkF m 139 #[.val (.long p0), .second, .val (.long p1), .second, .val (.long p2), .second, .val (.long p3), .second, .val (.long p4), .second, .val (.long 536870923), .second, .val (.long jr0), .second, .val (.long jr1), .second, .val (.long jr2), .second, .val (.long jr3), .second, .val (.long jr4), .second, .val (.ref b28), .val (.ref b30)] [(.long 536870923), (.long jr3), (.long jr4), (.long jr1), (.long jm1)])) _
    refine st27 _ ?_
    show Steps p.tables e below (T27.setTop (mkF m 142 #[.val (.long p0), .second, .val (.long p1), .second, .val (.long p2), .second, .val (.long p3), .second, .val (.long p4), .second, .val (.long 536870923), .second, .val (.long jr0), .second, .val (.long jr1), .second, .val (.long jr2), .second, .val (.long jr3), .second, .val (.long jr4), .second, .val (.ref b28), .val (.ref b30)] [(.long jd1), (.long jm1)])) _
    refine XS.lcmp X27.here hx rfl (hb hby at_142) rfl ?_
    refine XS.ifNo X27.here hx rfl (hb hby at_143) rfl ((if0 _ _).trans (teq (f18 : (lcmpW jm1 jd1) = (0 : Int32))).2) ?_
    refine XS.aload X27.here hx rfl (hb hby at_146) rfl rfl ?_
    refine XS.iconst X27.here hx rfl (hb hby at_148) ?_
    show Steps p.tables e below (T27.setTop (mkF m 149 #[.val (.long p0), .second, .val (.long p1), .second, .val (.long p2), .second, .val (.long p3), .second, .val (.long p4), .second, .val (.long 536870923), .second, .val (.long jr0), .second, .val (.long jr1), .second, .val (.long jr2), .second, .val (.long jr3), .second, .val (.long jr4), .second, .val (.ref b28), .val (.ref b30)] [(.int 0), (.ref b30)])) _
    refine X27.laload hx (j := (0 : Int32)) (v := (.long jr2)) (by rw [e27]; exact Ar29.1) (State.isArrayOf_alike hZ.alike Ar29.2.1) Ar29.2.2 hin29 hat29 (g := (mkF m 149 #[.val (.long p0), .second, .val (.long p1), .second, .val (.long p2), .second, .val (.long p3), .second, .val (.long p4), .second, .val (.long 536870923), .second, .val (.long jr0), .second, .val (.long jr1), .second, .val (.long jr2), .second, .val (.long jr3), .second, .val (.long jr4), .second, .val (.ref b28), .val (.ref b30)] [(.int 0), (.ref b30)])) rfl rfl (hb hby at_149) _ ?_
    refine XS.lload X27.here hx rfl (hb hby at_150) rfl ?_
    show Steps p.tables e below (T27.setTop (mkF m 152 #[.val (.long p0), .second, .val (.long p1), .second, .val (.long p2), .second, .val (.long p3), .second, .val (.long p4), .second, .val (.long 536870923), .second, .val (.long jr0), .second, .val (.long jr1), .second, .val (.long jr2), .second, .val (.long jr3), .second, .val (.long jr4), .second, .val (.ref b28), .val (.ref b30)] [(.long jr2), (.long jr2)])) _
    refine XS.lcmp X27.here hx rfl (hb hby at_152) rfl ?_
    refine XS.ifNo X27.here hx rfl (hb hby at_153) rfl ((if0 _ _).trans (teq (f19 : (lcmpW jr2 jr2) = (0 : Int32))).2) ?_
    refine XS.aload X27.here hx rfl (hb hby at_156) rfl rfl ?_
    refine XS.iconst X27.here hx rfl (hb hby at_158) ?_
    show Steps p.tables e below (T27.setTop (mkF m 159 #[.val (.long p0), .second, .val (.long p1), .second, .val (.long p2), .second, .val (.long p3), .second, .val (.long p4), .second, .val (.long 536870923), .second, .val (.long jr0), .second, .val (.long jr1), .second, .val (.long jr2), .second, .val (.long jr3), .second, .val (.long jr4), .second, .val (.ref b28), .val (.ref b30)] [(.int 1), (.ref b30)])) _
    refine X27.laload hx (j := (1 : Int32)) (v := (.long jr3)) (by rw [e27]; exact Ar30.1) (State.isArrayOf_alike hZ.alike Ar30.2.1) Ar30.2.2 hin30 hat30 (g := (mkF m 159 #[.val (.long p0), .second, .val (.long p1), .second, .val (.long p2), .second, .val (.long p3), .second, .val (.long p4), .second, .val (.long 536870923), .second, .val (.long jr0), .second, .val (.long jr1), .second, .val (.long jr2), .second, .val (.long jr3), .second, .val (.long jr4), .second, .val (.ref b28), .val (.ref b30)] [(.int 1), (.ref b30)])) rfl rfl (hb hby at_159) _ ?_
    refine XS.lload X27.here hx rfl (hb hby at_160) rfl ?_
    show Steps p.tables e below (T27.setTop (mkF m 162 #[.val (.long p0), .second, .val (.long p1), .second, .val (.long p2), .second, .val (.long p3), .second, .val (.long p4), .second, .val (.long 536870923), .second, .val (.long jr0), .second, .val (.long jr1), .second, .val (.long jr2), .second, .val (.long jr3), .second, .val (.long jr4), .second, .val (.ref b28), .val (.ref b30)] [(.long jr3), (.long jr3)])) _
    refine XS.lcmp X27.here hx rfl (hb hby at_162) rfl ?_
    refine XS.ifNo X27.here hx rfl (hb hby at_163) rfl ((if0 _ _).trans (teq (f20 : (lcmpW jr3 jr3) = (0 : Int32))).2) ?_
    refine XS.iconst X27.here hx rfl (hb hby at_166) ?_
    refine XS.goto X27.here hx rfl (pc0 := 167) (pc' := 171) rfl (hb hby at_167) (by decide) (by decide) ?_
    show Steps p.tables e below (T27.setTop (mkF m 171 #[.val (.long p0), .second, .val (.long p1), .second, .val (.long p2), .second, .val (.long p3), .second, .val (.long p4), .second, .val (.long 536870923), .second, .val (.long jr0), .second, .val (.long jr1), .second, .val (.long jr2), .second, .val (.long jr3), .second, .val (.long jr4), .second, .val (.ref b28), .val (.ref b30)] [(.int 1)])) _
    exact retN X27 hx (t := .boolean) Bd.returns (by simp) (hb hby at_171) hr
  · show QT n0 _ T27.heap _
    rw [e27]
    exact ⟨rfl, N27⟩
set_option maxRecDepth 65536 in
set_option maxHeartbeats 40000000 in
theorem comes_1 {Post : Tables → Env → Array Value → State → Outcome → State → Prop} (hpost : ∀ tb e args s v u, (limb_1_1.after args s (.returned v) u = true ∧ limb_1_2.after args s (.returned v) u = true ∧ True) → FrameEnd s (.returned v) u (Jvm.fieldLocs frame_1_writes args s ++ Jvm.arrayLocs frame_1_arrays args s ++ Jvm.staticLocs frame_1_statics s) 16 128 → Post tb e args s (.returned v) u) :
    ArmFor flags0 classFile x code maxLocals ret World_1 tables_1 room_1 Calls_1 rest_1 Pre_1 Post := by
  intro l hfl _ _ p e ha hc hk s m args below hf hA hF happ hP
  obtain ⟨hcalls, hrest, hpre⟩ := hP
  obtain ⟨-, -, -, hnamed, -, -, -, hat⟩ := (Spec.applies_iff hf).mp happ
  obtain ⟨hg, hn⟩ := and_e (Cond.before_iff.mp (show (Jvm.Cond.and given_1 narrow_1).before args s = true from hpre))
  obtain ⟨k33, k34⟩ := and_e hg
  obtain ⟨k35, k36⟩ := and_e k34
  obtain ⟨k37, k38⟩ := and_e k36
  obtain ⟨k39, k40⟩ := and_e k38
  obtain ⟨k41, k42⟩ := and_e k40
  obtain ⟨w0, w1, w2, w3, w4, rfl⟩ : ∃ w0 w1 w2 w3 w4 : Value, args = #[w0, w1, w2, w3, w4] := by
    have hs : args.size = 5 := by simpa [Cond.value, given_1] using k33
    obtain ⟨L⟩ := args
    match L, hs with
    | [w0, w1, w2, w3, w4], _ => exact ⟨w0, w1, w2, w3, w4, rfl⟩
  have hw := fun d (hd : d ∈ tables_1) => atoms_spec (ws := Jvm.Cond.code x code maxLocals ret :: tables_1) hat d (List.mem_cons_of_mem _ hd)
  have hfit : Fit s := fun {y c} hc i hi => by
    obtain ⟨ha, rfl⟩ := Array.getElem?_eq_some_iff.mp hc
    have q := List.all_eq_true.mp ((Array.all_eq_true_iff_forall_mem.mp hF) _ (Array.getElem_mem ha)) i (List.mem_range.mpr hi)
    simpa [Array.getElem?_eq_getElem hi] using q
  obtain ⟨p0, ei0⟩ := isL_v k35
  obtain rfl : w0 = (.long p0) := Option.some.inj ei0
  obtain ⟨p1, ei1⟩ := isL_v k37
  obtain rfl : w1 = (.long p1) := Option.some.inj ei1
  obtain ⟨p2, ei2⟩ := isL_v k39
  obtain rfl : w2 = (.long p2) := Option.some.inj ei2
  obtain ⟨p3, ei3⟩ := isL_v k41
  obtain rfl : w3 = (.long p3) := Option.some.inj ei3
  obtain ⟨p4, ei4⟩ := isL_v k42
  obtain rfl : w4 = (.long p4) := Option.some.inj ei4
  have S_PRIME : Sta s s.heap "com/example/subsumption/subsumption/SquareSystem" "PRIME" "J" (.long (536870923 : Int64)) := Sta.start (own_stl hn) (Or.inr ⟨(tw_1 hw), (tw_2 hw)⟩)
  have M : MetFree l x (head1 (Jvm.Cond.code x code maxLocals ret :: tables_1) room_1) (fun a U => a = #[(.long p0), (.long p1), (.long p2), (.long p3), (.long p4)] ∧ s.Warmed39 U.vm ∧ U.heap = s.heap) (fun _ _ _ _ _ => True) (fun _ U o U' => ∃ v L, o = .returned v ∧ QT s.heap.size v U'.heap L ∧ FrameEnd U o U' L room_1.cells room_1.slots) := by
    obtain ⟨jr0, hjr0⟩ : ∃ r, ((p0 &&& (9223372036854775807 : Int64)) % (536870923 : Int64)) = r := ⟨_, rfl⟩
    have ir0 := own_res p0
    rw [hjr0] at ir0
    obtain ⟨jr1, hjr1⟩ : ∃ r, ((p1 &&& (9223372036854775807 : Int64)) % (536870923 : Int64)) = r := ⟨_, rfl⟩
    have ir1 := own_res p1
    rw [hjr1] at ir1
    obtain ⟨jr2, hjr2⟩ : ∃ r, ((p2 &&& (9223372036854775807 : Int64)) % (536870923 : Int64)) = r := ⟨_, rfl⟩
    have ir2 := own_res p2
    rw [hjr2] at ir2
    obtain ⟨jr3, hjr3⟩ : ∃ r, ((p3 &&& (9223372036854775807 : Int64)) % (536870923 : Int64)) = r := ⟨_, rfl⟩
    have ir3 := own_res p3
    rw [hjr3] at ir3
    obtain ⟨jr4, hjr4⟩ : ∃ r, ((p4 &&& (9223372036854775807 : Int64)) % (536870923 : Int64)) = r := ⟨_, rfl⟩
    have ir4 := own_res p4
    rw [hjr4] at ir4
    obtain ⟨jnf, hjnf⟩ : ∃ r, ((536870923 : Int64) - jr4) = r := ⟨_, rfl⟩
    obtain ⟨jm0, hjm0⟩ : ∃ r, ((jr0 + (jnf * jr2)) % (536870923 : Int64)) = r := ⟨_, rfl⟩
    obtain ⟨jt0, hjt0⟩ : ∃ r, ((jr4 * jr2) % (536870923 : Int64)) = r := ⟨_, rfl⟩
    obtain ⟨jd0, hjd0⟩ : ∃ r, (jr0 - jt0) = r := ⟨_, rfl⟩
    obtain ⟨jx0, hjx0⟩ : ∃ r, (jd0 + (536870923 : Int64)) = r := ⟨_, rfl⟩
    obtain ⟨jm1, hjm1⟩ : ∃ r, ((jr1 + (jnf * jr3)) % (536870923 : Int64)) = r := ⟨_, rfl⟩
    obtain ⟨jt1, hjt1⟩ : ∃ r, ((jr4 * jr3) % (536870923 : Int64)) = r := ⟨_, rfl⟩
    obtain ⟨jd1, hjd1⟩ : ∃ r, (jr1 - jt1) = r := ⟨_, rfl⟩
    obtain ⟨jx1, hjx1⟩ : ∃ r, (jd1 + (536870923 : Int64)) = r := ⟨_, rfl⟩
    have hz2 := own_same jr2
    have hz3 := own_same jr3
    by_cases hj : (lcmpW jr4 (0 : Int64)) = (0 : Int32)
    · have ha0 := own_zero jr0 jr4 jr2 ir0 ir4 ir2 hj
      have ha1 := own_zero jr1 jr4 jr3 ir1 ir4 ir3 hj
      rw [hjt0, hjd0] at ha0
      rw [hjt1, hjd1] at ha1
      · exact rm0_8 l s _ hw tables_1 p0 p1 p2 p3 p4 jr0 jr1 jr2 jr3 jr4 jt0 jd0 jt1 jd1 s.heap s.heap.size (Nat.le_refl _) S_PRIME hjr0 hjr1 hjr2 hjr3 hjr4 hj hjt0 hjd0 ha0.1 ha0.2 hjt1 hjd1 ha1.1 ha1.2 hz2 hz3
    · have hb0 := own_full jr0 jr4 jr2 ir0 ir4 ir2
      have hb1 := own_full jr1 jr4 jr3 ir1 ir4 ir3
      rw [hjnf, hjm0, hjt0, hjd0, hjx0] at hb0
      rw [hjnf, hjm1, hjt1, hjd1, hjx1] at hb1
      rcases hb0 with hb0 | hb0
      · rcases hb1 with hb1 | hb1
        · exact rm0_17 l s _ hw tables_1 p0 p1 p2 p3 p4 jr0 jr1 jr2 jr3 jr4 jnf jm0 jm1 jt0 jd0 jx0 jt1 jd1 jx1 s.heap s.heap.size (Nat.le_refl _) S_PRIME hjr0 hjr1 hjr2 hjr3 hjr4 hj hjnf hjm0 hjm1 hjt0 hjd0 hb0.1 hjx0 hb0.2 hjt1 hjd1 hb1.1 hjx1 hb1.2 hz2 hz3
        · exact rm0_22 l s _ hw tables_1 p0 p1 p2 p3 p4 jr0 jr1 jr2 jr3 jr4 jnf jm0 jm1 jt0 jd0 jx0 jt1 jd1 s.heap s.heap.size (Nat.le_refl _) S_PRIME hjr0 hjr1 hjr2 hjr3 hjr4 hj hjnf hjm0 hjm1 hjt0 hjd0 hb0.1 hjx0 hb0.2 hjt1 hjd1 hb1.1 hb1.2 hz2 hz3
      · rcases hb1 with hb1 | hb1
        · exact rm0_27 l s _ hw tables_1 p0 p1 p2 p3 p4 jr0 jr1 jr2 jr3 jr4 jnf jm0 jm1 jt0 jd0 jt1 jd1 jx1 s.heap s.heap.size (Nat.le_refl _) S_PRIME hjr0 hjr1 hjr2 hjr3 hjr4 hj hjnf hjm0 hjm1 hjt0 hjd0 hb0.1 hb0.2 hjt1 hjd1 hb1.1 hjx1 hb1.2 hz2 hz3
        · exact rm0_32 l s _ hw tables_1 p0 p1 p2 p3 p4 jr0 jr1 jr2 jr3 jr4 jnf jm0 jm1 jt0 jd0 jt1 jd1 s.heap s.heap.size (Nat.le_refl _) S_PRIME hjr0 hjr1 hjr2 hjr3 hjr4 hj hjnf hjm0 hjm1 hjt0 hjd0 hb0.1 hb0.2 hjt1 hjd1 hb1.1 hb1.2 hz2 hz3
  obtain ⟨n, o, h1, h2, h3, _, L, rfl, ⟨rfl, N⟩, hq⟩ := M p e ha hc hk s m _ below hf ((Spec.applies_iff_loose hf).mp happ).1 ⟨rfl, State.Warmed39.refl s, rfl⟩ trivial
  refine ⟨n, _, h1, h2, h3, hpost _ _ _ _ _ _ ⟨Cond.after_iff.mpr rfl, Cond.after_iff.mpr (eq_i res_at (Term.int_eval (1)) rfl), trivial⟩ ⟨hq.1, hq.2.1, (hq.2.2.sift fun y hy => Or.inr (N y hy)).mono (by decide) (by decide)⟩⟩
theorem main_1_1 : Claimed_1_1 := comes_1 fun _ _ _ _ _ _ h hF => ⟨h.1, hF⟩
theorem main_1_2 : Claimed_1_2 := comes_1 fun _ _ _ _ _ _ h hF => ⟨h.2.1, hF⟩
end Jvm.Pilot.@@N@@
namespace Jvm.Pilot.@@N@@
open Jvm Jvm.ClassFile Sem Op Lib Jvm.Free Jvm.Stand Jvm.Pilot.@@N@@.Jvm.D
/-! MADE BY PROGRAM (witnessworld.py) out of the Statement's table words and the real class files: 11 classes; the members and pool entries that the words name. The judged class is class 1, her method 1. -/
namespace start1
open Jvm.ClassFile
def u (s : String) : CpInfo := .utf8 (stringToUtf16 s)
/-- a pool by its gaps: so many unusable entries, then the entry; so many at the end -/
def gap : Nat → List CpInfo → List CpInfo
  | 0, r => r
  | n + 1, r => .unusable :: gap n r
def poolList (es : List (Nat × CpInfo)) (last : Nat) : List CpInfo := es.foldr (fun e r => gap e.1 (e.2 :: r)) (gap last [])
def pool (es : List (Nat × CpInfo)) (last : Nat) : Array CpInfo := ⟨poolList es last⟩
def fileOf (pool : Array CpInfo) (this : Nat) (attrs : Array Attribute := #[]) (ms : Array MethodInfo := #[]) (fl : Nat := 33) (sup : Nat := 0) (ifs : Array Nat := #[]) (fds : Array FieldInfo := #[]) : ClassFile where
  minorVersion := 0
  majorVersion := 65
  constantPool := pool
  accessFlags := fl
  thisClass := this
  superClass := sup
  interfaces := ifs
  fields := fds
  methods := ms
  attributes := attrs
def plain (name : String) (sup : Option ClassId) : Class where
  name := name
  kind := .ordinary
  loader := none
  accessFlags := 33
  super := sup
  interfaces := #[]
  cf := none
  fields := #[]
  methods := #[]
  instanceTypes := #[]
  staticTypes := #[]
  resolved := #[]
  callSites := []
  init := .initialized
  statics := none
  mirror := none

def pool0 : Array CpInfo := pool [(5, u "<init>"), (0, u "()V"), (1, .class_ 10), (1, u "java/lang/Object")] 113

def k0m0 : Method := { name := "<init>", desc := "()V", sig := { parameters := [], returnType := none }, accessFlags := 1, code := none }
/-- java/lang/Object -/
def k0 : Class := { plain "java/lang/Object" none with
  accessFlags := 33
  interfaces := #[]
  cf := some (fileOf pool0 8 #[] #[{ accessFlags := 1, nameIndex := 5, descriptorIndex := 6, attributes := #[] }] 33 0 #[] #[])
  fields := #[]
  methods := #[k0m0]
  instanceTypes := #[]
  staticTypes := #[]
  resolved := Array.replicate 124 none
  statics := none }

def pool1 : Array CpInfo := pool [(2, .class_ 4), (1, u "java/lang/Object"), (0, u "<init>"), (0, u "()V"), (0, .fieldref 8 9), (0, .class_ 10), (0, .nameAndType 11 12), (0, u "com/example/subsumption/subsumption/SquareSystem"), (0, u "PRIME"), (0, u "J"), (2, .long 9223372036854775807), (1, .methodref 8 18), (0, .nameAndType 19 20), (0, u "subtractTimes"), (0, u "([JJ[J)V"), (0, .methodref 22 23), (0, .class_ 24), (0, .nameAndType 25 26), (0, u "com/example/subsumption/subsumption/SquareSystemSubtractTimesPinLaw"), (0, u "expected"), (0, u "(JJJJ)J"), (2, u "law"), (0, u "(JJJJJ)Z")] 5

def k1m0 : Method := { name := "<init>", desc := "()V", sig := { parameters := [], returnType := none }, accessFlags := 1, code := none }
def k1c1 : Code := { maxStack := 10, maxLocals := 24, code := code, exceptionTable := #[], attributes := #[] }
def k1m1 : Method := { name := "law", desc := "(JJJJJ)Z", sig := { parameters := [.long, .long, .long, .long, .long], returnType := some .boolean }, accessFlags := 9, code := some k1c1 }
def k1c2 : Code := { maxStack := 4, maxLocals := 12, code := method_3_code, exceptionTable := #[], attributes := #[] }
def k1m2 : Method := { name := "expected", desc := "(JJJJ)J", sig := { parameters := [.long, .long, .long, .long], returnType := some .long }, accessFlags := 10, code := some k1c2 }
/-- com/example/subsumption/subsumption/SquareSystemSubtractTimesPinLaw -/
def k1 : Class := { plain "com/example/subsumption/subsumption/SquareSystemSubtractTimesPinLaw" (some 0) with
  accessFlags := 49
  interfaces := #[]
  cf := some (fileOf pool1 22 #[] #[{ accessFlags := 1, nameIndex := 5, descriptorIndex := 6, attributes := #[] }, { accessFlags := 9, nameIndex := 29, descriptorIndex := 30, attributes := #[] }, { accessFlags := 10, nameIndex := 25, descriptorIndex := 26, attributes := #[] }] 49 2 #[] #[])
  fields := #[]
  methods := #[k1m0, k1m1, k1m2]
  instanceTypes := #[]
  staticTypes := #[]
  resolved := Array.replicate 36 none
  statics := none }

def pool2 : Array CpInfo := pool [(2, .class_ 4), (1, u "java/lang/Object"), (3, .class_ 10), (1, u "com/example/subsumption/subsumption/SquareSystem"), (0, u "square"), (0, u "[[Ljava/math/BigInteger;"), (2, u "inverse"), (0, u "[[J"), (49, .class_ 67), (0, u "com/example/subsumption/subsumption/SquareSystem$Lifting"), (61, u "Ljava/math/BigInteger;"), (15, .class_ 146), (0, u "com/example/subsumption/subsumption/SquareSystem$Fractions"), (24, u "BIG_PRIME"), (108, u "subtractTimes"), (0, u "([JJ[J)V"), (13, .fieldref 8 296), (0, .nameAndType 297 298), (0, u "PRIME"), (0, u "J"), (68, u "BITS_PER_STEP"), (0, u "I"), (2, u "FEW_DIGITS"), (1, u "PRODUCTS_PER_SUM"), (0, u "FIRST_TRY"), (0, u "GROWTH_PER_TRY"), (49, .class_ 426), (0, u "com/example/subsumption/subsumption/SquareSystem$Residual"), (0, .class_ 428), (0, u "com/example/subsumption/subsumption/SquareSystem$LimbRow")] 112

def k2c0 : Code := { maxStack := 8, maxLocals := 7, code := prog_16_method_10_code, exceptionTable := #[], attributes := #[] }
def k2m0 : Method := { name := "subtractTimes", desc := "([JJ[J)V", sig := { parameters := [(.array .long), .long, (.array .long)], returnType := none }, accessFlags := 8, code := some k2c0 }
/-- com/example/subsumption/subsumption/SquareSystem -/
def k2 : Class := { plain "com/example/subsumption/subsumption/SquareSystem" (some 0) with
  accessFlags := 32
  interfaces := #[]
  cf := some (fileOf pool2 8 #[.nestMembers #[145, 425, 427, 66]] #[{ accessFlags := 8, nameIndex := 280, descriptorIndex := 281, attributes := #[] }] 32 2 #[] #[{ accessFlags := 26, nameIndex := 367, descriptorIndex := 368, attributes := #[] }, { accessFlags := 24, nameIndex := 297, descriptorIndex := 298, attributes := #[] }, { accessFlags := 26, nameIndex := 171, descriptorIndex := 129, attributes := #[] }, { accessFlags := 26, nameIndex := 371, descriptorIndex := 368, attributes := #[] }, { accessFlags := 26, nameIndex := 373, descriptorIndex := 368, attributes := #[] }, { accessFlags := 26, nameIndex := 374, descriptorIndex := 368, attributes := #[] }, { accessFlags := 26, nameIndex := 375, descriptorIndex := 368, attributes := #[] }, { accessFlags := 18, nameIndex := 11, descriptorIndex := 12, attributes := #[] }, { accessFlags := 18, nameIndex := 15, descriptorIndex := 16, attributes := #[] }])
  fields := #[{ name := "BITS_PER_STEP", type := .int, accessFlags := 26, slot := 0, constantValue := 0 }, { name := "PRIME", type := .long, accessFlags := 24, slot := 1, constantValue := 0 }, { name := "BIG_PRIME", type := (.object "java/math/BigInteger"), accessFlags := 26, slot := 2, constantValue := 0 }, { name := "FEW_DIGITS", type := .int, accessFlags := 26, slot := 3, constantValue := 0 }, { name := "PRODUCTS_PER_SUM", type := .int, accessFlags := 26, slot := 4, constantValue := 0 }, { name := "FIRST_TRY", type := .int, accessFlags := 26, slot := 5, constantValue := 0 }, { name := "GROWTH_PER_TRY", type := .int, accessFlags := 26, slot := 6, constantValue := 0 }, { name := "square", type := (.array (.array (.object "java/math/BigInteger"))), accessFlags := 18, slot := 0, constantValue := 0 }, { name := "inverse", type := (.array (.array .long)), accessFlags := 18, slot := 1, constantValue := 0 }]
  methods := #[k2m0]
  instanceTypes := #[(.array (.array (.object "java/math/BigInteger"))), (.array (.array .long))]
  staticTypes := #[.int, .long, (.object "java/math/BigInteger"), .int, .int, .int, .int]
  resolved := Array.replicate 541 none
  statics := some 0 }

def pool3 : Array CpInfo := pool [(1, u "java/lang/Cloneable"), (0, .class_ 1), (0, u "java/lang/Object"), (0, .class_ 3)] 3

/-- java/lang/Cloneable -/
def k3 : Class := { plain "java/lang/Cloneable" (some 0) with
  accessFlags := 1537
  interfaces := #[]
  cf := some (fileOf pool3 2 #[] #[] 1537 4 #[] #[])
  fields := #[]
  methods := #[]
  instanceTypes := #[]
  staticTypes := #[]
  resolved := Array.replicate 8 none
  statics := none }

def pool4 : Array CpInfo := pool [(1, u "java/io/Serializable"), (0, .class_ 1), (0, u "java/lang/Object"), (0, .class_ 3)] 3

/-- java/io/Serializable -/
def k4 : Class := { plain "java/io/Serializable" (some 0) with
  accessFlags := 1537
  interfaces := #[]
  cf := some (fileOf pool4 2 #[] #[] 1537 4 #[] #[])
  fields := #[]
  methods := #[]
  instanceTypes := #[]
  staticTypes := #[]
  resolved := Array.replicate 8 none
  statics := none }

/-- the primitive byte -/
def k5 : Class := { plain "byte" none with kind := .primitive 'B', accessFlags := 0x411 }
/-- [B -/
def k6 : Class := { plain "[B" (some 0) with kind := .array 5 .byte, interfaces := #[3, 4], accessFlags := 1041 }

/-- the primitive int -/
def k7 : Class := { plain "int" none with kind := .primitive 'I', accessFlags := 0x411 }
/-- [I -/
def k8 : Class := { plain "[I" (some 0) with kind := .array 7 .int, interfaces := #[3, 4], accessFlags := 1041 }

/-- the primitive long -/
def k9 : Class := { plain "long" none with kind := .primitive 'J', accessFlags := 0x411 }
/-- [J -/
def k10 : Class := { plain "[J" (some 0) with kind := .array 9 .long, interfaces := #[3, 4], accessFlags := 1041 }

def heap : Heap := #[{ cls := 2, slots := #[.int 0, .long 536870923, .null, .int 0, .int 0, .int 0, .int 0], vm := .statics 2 }]
def classes : Array Class := #[k0, k1, k2, k3, k4, k5, k6, k7, k8, k9, k10]
def interned : List (Array UInt16 × Addr) := []
def slotsUsed : Nat := 7
def theMethod : MethodId := ⟨1, 1⟩
def args0 : Array Value := #[.long 5, .long 3, .long 7, .long 2, .long 9]
def aboutOver (below : List Frame) : State where
  vm := { classes := classes, interned := interned.toArray }
  heap := heap
  slotsUsed := slotsUsed
  threads := #[{ frames := .invoking theMethod args0 :: below }]
def below0 : List Frame := [.native { method := ⟨0, 0⟩, args := #[] }]
def about1 : State := aboutOver below0
def p0 : Program := .bare "" "" ""
def e0 : Env := launch0.env 0 0 0
theorem w_frames : about1.frames = Frame.invoking theMethod args0 :: below0 := rfl
set_option maxRecDepth 65536 in
theorem w_args : argsFit about1.vm theMethod args0 = true := by decide +kernel
set_option maxRecDepth 65536 in
theorem w_heap : heapFits about1 = true := by decide +kernel
set_option maxRecDepth 65536 in
theorem w_runnable : about1.curStatus? = some .runnable := by decide +kernel
set_option maxRecDepth 65536 in
theorem w_alone : about1.alone = true := by decide +kernel
set_option maxRecDepth 65536 in
theorem w_named : about1.methodNamed? x = some theMethod := by decide +kernel
set_option maxRecDepth 65536 in
theorem w_hears : about1.hears theMethod below0 = true := by decide +kernel
set_option maxRecDepth 65536 in
theorem w_ripe : about1.ripe theMethod args0 below0 = true := by decide +kernel
theorem w_running : about1.status = .running := rfl
set_option maxRecDepth 65536 in
theorem w_room : about1.hasRoom e0.platform room_1 = true :=
  launch0.hasRoom_least _ room_1 (by decide +kernel) (by decide +kernel) (by decide +kernel) (by decide +kernel) (by decide +kernel) (by decide +kernel)
theorem allAtoms_all (ts : List Jvm.Cond) (a : Array Jvm.Value) (st : Jvm.State) : (allAtoms ts).before a st = ts.all (fun c => c.before a st) := by
  induction ts with
  | nil => rfl
  | cons c t ih =>
    show (Jvm.Cond.and c (allAtoms t)).before a st = _
    rw [Jvm.Cond.before_and, ih, List.all_cons]
def words1 : List Jvm.Cond := Jvm.Cond.code x code maxLocals ret :: tables_1
/-- a 'code' word, met by the world's own term for the bytes: nothing is compared byte by byte -/
theorem code_word {y : MethodName} {bytes : ByteArray} {mx : Nat} {rt : Option FieldType} {a : Array Value} {s : State} {m : MethodId} {meth : Method} {c : Code} (h1 : s.methodNamed? y = some m) (h2 : s.vm.method? m = some meth) (h3 : meth.code = some c) (h4 : c.code = bytes)
    (h5 : (c.maxLocals == mx && c.exceptionTable.isEmpty && decide (c.maxStack ≤ mostOperands) && decide (meth.sig.returnType = rt) && !meth.locks && decide (parseMethodDescriptor y.desc = some meth.sig)) = true) : (Jvm.Cond.code y bytes mx rt).before a s = true := by
  simp only [Bool.and_eq_true, beq_iff_eq, Bool.not_eq_true', decide_eq_true_eq] at h5
  obtain ⟨⟨⟨⟨⟨g1, g2⟩, g3⟩, g4⟩, g5⟩, g6⟩ := h5
  simp [Cond.before, Cond.holds, Cond.value, h1, h2, h3, h4, g1, g2, g3, g4, g5, g6]
def isCode : Jvm.Cond → Bool
  | .code _ _ _ _ => true
  | _ => false
theorem all_split {L : List Jvm.Cond} {P : Jvm.Cond → Bool} (h1 : L.all (fun c => isCode c || P c) = true) (h2 : ∀ c ∈ L.filter isCode, P c = true) : L.all P = true := by
  refine List.all_eq_true.mpr fun c hc => ?_
  have h := List.all_eq_true.mp h1 c hc
  rcases Bool.eq_false_or_eq_true (isCode c) with hi | hi
  · exact h2 c (List.mem_filter.mpr ⟨hc, hi⟩)
  · simpa [hi] using h
set_option maxRecDepth 65536 in
theorem w_c0 : (Jvm.Cond.code x code maxLocals ret).before args0 about1 = true := code_word (m := ⟨1, 1⟩) (meth := k1m1) (c := k1c1) (by decide +kernel) rfl rfl rfl (by decide +kernel)
set_option maxRecDepth 65536 in
theorem w_c1 : (Jvm.Cond.code ({ cls := "com/example/subsumption/subsumption/SquareSystem", name := "subtractTimes", desc := "([JJ[J)V" } : Jvm.MethodName) prog_16_method_10_code (7 : Nat) (Option.none : Option Jvm.ClassFile.FieldType)).before args0 about1 = true := code_word (m := ⟨2, 0⟩) (meth := k2m0) (c := k2c0) (by decide +kernel) rfl rfl rfl (by decide +kernel)
set_option maxRecDepth 65536 in
theorem w_c2 : (Jvm.Cond.code ({ cls := "com/example/subsumption/subsumption/SquareSystemSubtractTimesPinLaw", name := "expected", desc := "(JJJJ)J" } : Jvm.MethodName) method_3_code (12 : Nat) (Option.some Jvm.ClassFile.FieldType.long)).before args0 about1 = true := code_word (m := ⟨1, 2⟩) (meth := k1m2) (c := k1c2) (by decide +kernel) rfl rfl rfl (by decide +kernel)
def codes1 : List Jvm.Cond := [Jvm.Cond.code x code maxLocals ret, Jvm.Cond.code ({ cls := "com/example/subsumption/subsumption/SquareSystem", name := "subtractTimes", desc := "([JJ[J)V" } : Jvm.MethodName) prog_16_method_10_code (7 : Nat) (Option.none : Option Jvm.ClassFile.FieldType), Jvm.Cond.code ({ cls := "com/example/subsumption/subsumption/SquareSystemSubtractTimesPinLaw", name := "expected", desc := "(JJJJ)J" } : Jvm.MethodName) method_3_code (12 : Nat) (Option.some Jvm.ClassFile.FieldType.long)]
set_option maxRecDepth 65536 in
theorem codes_eq : words1.filter isCode = codes1 := rfl
theorem w_codes : ∀ c ∈ words1.filter isCode, c.before args0 about1 = true := by
  rw [codes_eq]
  intro c hc
  simp only [codes1, List.mem_cons, List.not_mem_nil, or_false] at hc
  rcases hc with rfl | rfl | rfl
  · exact w_c0
  · exact w_c1
  · exact w_c2
set_option maxRecDepth 65536 in
theorem w_t1 : words1.all (fun c => isCode c || c.before args0 about1) = true := by decide +kernel
theorem w_tables : (allAtoms (Jvm.Cond.code x code maxLocals ret :: tables_1)).before args0 about1 = true := by
  rw [allAtoms_all]
  show words1.all (fun c => c.before args0 about1) = true
  refine all_split ?_ w_codes
  rw [w_t1]
set_option maxRecDepth 65536 in
theorem w_case : (Jvm.Cond.and given_1 narrow_1).before args0 about1 = true := by decide +kernel
theorem w_applies : (headSpec (Jvm.Cond.code x code maxLocals ret :: tables_1) room_1).applies x e0.platform about1 = true :=
  (Spec.applies_iff w_frames).mpr ⟨w_running, w_runnable, w_alone, w_named, w_hears, w_ripe, w_room, w_tables⟩
theorem atStart : AtStart classFile x code maxLocals ret World_1 tables_1 room_1 Calls_1 rest_1 Pre_1 launch0 p0 e0 about1 theMethod args0 below0 :=
  ⟨lists_1, trivial, launch0.admits_env _ _ _, launch0.least_env, fairChoices_fair.cas, fairChoices_fair.clock, w_frames, w_args, w_heap, w_applies, trivial, trivial, w_case⟩
end start1
theorem witness_1 : WitnessClaimed_1 := ⟨start1.p0, start1.e0, start1.about1, start1.theMethod, start1.args0, start1.below0, start1.atStart⟩
end Jvm.Pilot.@@N@@
