import JvmDerived
import JvmDerived.Pilot.@@N@@Statement
import JvmDerived.Pilot.@@N@@Code
set_option linter.unusedVariables false
set_option linter.unusedSimpArgs false
namespace Jvm.RoadKit
open Sem ClassFile Op Lib Jvm.Stand Jvm.Free Jvm.LawKit
section New
variable {p : Program} {l : Launch} {e : Env} {R : Room} {s : State} {m : MethodId} {args : Array Value} {below : List Frame} {meth : Method} {c : Code} {T : State} {locs : List Loc} {cells slots : Nat}
theorem retI (X : Stand p l e R s m args below meth c T locs cells slots) (hx : p.tables.exec = Jvm.exec) {pc : Nat} {Ls : Array Slot} {z : Int32} {rest : List Value} (hret : meth.sig.returnType = some .int) (hd : decode c.code pc = .ok (.ireturn, 1)) {fs : List Frame}
    (hl : ∀ (f : JFrame) (acts : List Action), f.method = m → f.locked = none → f.entered = [] → (doReturn e (T.setTop f) acts (some (.int z))).1 = T.setFrames fs) : Steps p.tables e below (T.setTop (mkF m pc Ls (.int z :: rest))) (T.setFrames fs) := by
  have hm' : T.vm.method? m = some meth := X.method'
  have hn : narrow .int (.int z) = .int z := rfl
  show Steps p.tables e below (T.setTop { method := m, pc := pc, locals := Ls, stack := _ :: rest, locked := none }) _
  jvm_step X.here [X.here.top, hx, hd, hm', hret, hn]
  first | (intro acts; rw [hl _ acts rfl rfl rfl]) | rw [hl _ _ rfl rfl rfl]
  exact Steps.refl _
end New
end Jvm.RoadKit
namespace Jvm.RoadKit
open Sem ClassFile Op Lib Jvm.Stand Jvm.Free Jvm.LawKit
theorem own_lremM {p : Program} {l : Launch} {e : Env} {R : Room} {s : State} {m : MethodId} {args : Array Value} {below : List Frame} {meth : Method} {c : Code} {T : State} {locs : List Loc} {cells slots : Nat} {g : JFrame} {target : State} (X : Stand p l e R s m args below meth c T locs cells slots) (hx : p.tables.exec = Jvm.exec) (hg : g.method = m) {x y : Int64} {rest : List Value} (hd : decode c.code g.pc = .ok (.lrem, 1)) (hs : g.stack = .long y :: .long x :: rest) (hy : y ≠ 0)
    (hr : Steps p.tables e below (T.setTop { g with pc := g.pc + 1, stack := .long (x % y) :: rest }) target) : Steps p.tables e below (T.setTop g) target := by
  have q : x - x / y * y = x % y := lrem_mod x y
  exact XS.lrem X.here hx hg hd hs hy (by rw [q]; exact hr)
end Jvm.RoadKit
namespace Jvm.Pilot.@@N@@
open Jvm Jvm.ClassFile Sem Op Lib Jvm.Free Jvm.Stand Jvm.LawKit Jvm.RoadKit Bundle Jvm.Pilot.@@N@@.Jvm.D
def QT (n0 : Nat) (v : Option Value) (h : Heap) (L : List Loc) : Prop := v = some (.int 1) ∧ Fr n0 L
def QP (r : Option Value) (h0 : Heap) (n0 : Nat) (v : Option Value) (h : Heap) (L : List Loc) : Prop := v = r ∧ Fr n0 L ∧ h = h0
theorem own_fld {Z : State} {args : Array Value} {t : Term} {C n d : String} {a : Addr} {i : Int32} (ev : t.eval args Z none [] Z = some (.ref a)) (h : (Cond.eq (Term.field t C n d) (Term.int i)).value args Z none Z [] = some true) : Fld Z Z.heap a C n d (.int i) := by
  have e := fld_at (C := C) (n := n) (dd := d) ev
  refine Fld.start ?_
  obtain ⟨x, y, h1, h2, k1, k2⟩ := cmp_v (Or.inl h)
  have h3 : y = .int i := (Option.some.inj ((Term.int_eval i).symm.trans h2)).symm
  subst h3
  obtain ⟨z, rfl⟩ := k2
  have q : z = i := by simpa [Cond.value, h1, h2] using h
  rw [← e, h1, q]
theorem own_fldn {Z : State} {args : Array Value} {t : Term} {C n d : String} {a : Addr} (ev : t.eval args Z none [] Z = some (.ref a)) (h : (Cond.eq (Term.field t C n d) Term.null).value args Z none Z [] = some true) : Fld Z Z.heap a C n d .null := Fld.start ((fld_at ev).symm.trans (null_v h))
theorem own_sti {Z : State} {args : Array Value} {C n d : String} {i : Int32} (h : (Cond.eq (Term.static C n d) (Term.int i)).value args Z none Z [] = some true) : (Term.static C n d).eval args Z none [] Z = some (.int i) := by
  obtain ⟨x, y, h1, h2, k1, k2⟩ := cmp_v (Or.inl h)
  have h3 : y = .int i := (Option.some.inj ((Term.int_eval i).symm.trans h2)).symm
  subst h3
  obtain ⟨z, rfl⟩ := k2
  have q : z = i := by simpa [Cond.value, h1, h2] using h
  rw [h1, q]
theorem own_sta_keep {Z : State} {h h' : Heap} {C n d : String} {v : Value} {ws : List Addr} (F : Sta Z h C n d v) (K : Keep h h' ws) (q : ∀ x ∈ ws, ∀ c : Cell, h[x]? = some c → c.vm.isStatics = false) : Sta Z h' C n d v := by
  obtain ⟨cf, i, k, f, st, cell, h1, h2, h3, h4, h5, h6, h7⟩ := F
  have ne : st ∉ ws := fun z => by rw [q st z cell h5] at h6; cases h6
  exact ⟨cf, i, k, f, st, cell, h1, h2, h3, h4, K.2.1 st cell h5 ne, h6, h7⟩
theorem own_ns {h : Heap} {x : Addr} {ws : List Addr} (p : ∀ c : Cell, h[x]? = some c → c.vm.isStatics = false) (q : ∀ y ∈ ws, ∀ c : Cell, h[y]? = some c → c.vm.isStatics = false) : ∀ y ∈ x :: ws, ∀ c : Cell, h[y]? = some c → c.vm.isStatics = false := fun y hy => (List.mem_cons.mp hy).elim (fun e => e ▸ p) (q y)
theorem own_notin {a x : Addr} {ws : List Addr} (p : a ≠ x) (q : a ∉ ws) : a ∉ x :: ws := fun h => (List.mem_cons.mp h).elim p q
theorem own_stl {Z : State} {args : Array Value} {C n d : String} {i : Int64} (h : (Cond.eq (Term.static C n d) (Term.long i)).value args Z none Z [] = some true) : (Term.static C n d).eval args Z none [] Z = some (.long i) := by
  obtain ⟨x, y, h1, h2, k1, k2⟩ := cmp_v (Or.inl h)
  have h3 : y = .long i := by simpa [Term.eval] using h2.symm
  subst h3
  obtain ⟨z, rfl⟩ := k2
  have q : z = i := by simpa [Cond.value, h1, h2] using h
  rw [h1, q]
theorem own_res (p : Int64) : 0 ≤ ((p &&& (9223372036854775807 : Int64)) % (536870923 : Int64)).toInt ∧ ((p &&& (9223372036854775807 : Int64)) % (536870923 : Int64)).toInt < 536870923 := by
  have h := (c_andSL p (9223372036854775807 : Int64)).2.2 (by decide)
  have e : ((536870923 : Int64)).toInt = 536870923 := by decide
  rw [Int64.toInt_mod, e]
  rw [Int.tmod_eq_emod_of_nonneg h]
  omega
theorem own_c0 {x y : Int64} (h : x.toInt < y.toInt) : lcmpW x y < (0 : Int32) := by
  have q := (c_lcmp x y).1 h
  rw [Int32.lt_iff_toInt_lt, q]; decide
theorem own_c1 {x y : Int64} (h : y.toInt ≤ x.toInt) : ¬ (lcmpW x y < (0 : Int32)) := by
  rw [Int32.lt_iff_toInt_lt]
  have e : (0 : Int32).toInt = 0 := by decide
  rw [e]
  rcases Int.lt_or_eq_of_le h with q | q
  · rw [(c_lcmp x y).2.2 q]; decide
  · rw [(c_lcmp x y).2.1 q.symm]; decide
theorem own_c2 {x y : Int64} (h : x.toInt = y.toInt) : lcmpW x y = (0 : Int32) := by
  rw [← Int32.toInt_inj, (c_lcmp x y).2.1 h]; decide
theorem own_mulI {a b : Int64} (h : -9223372036854775808 ≤ a.toInt * b.toInt ∧ a.toInt * b.toInt < 9223372036854775808) : (a * b).toInt = a.toInt * b.toInt := by
  rw [Int64.toInt_mul]
  exact Int.bmod_eq_of_le_mul_two (by omega) (by omega)
theorem own_addI {a b : Int64} (h : -9223372036854775808 ≤ a.toInt + b.toInt ∧ a.toInt + b.toInt < 9223372036854775808) : (a + b).toInt = a.toInt + b.toInt := by
  rw [Int64.toInt_add]
  exact Int.bmod_eq_of_le_mul_two (by omega) (by omega)
theorem own_subI {a b : Int64} (h : -9223372036854775808 ≤ a.toInt - b.toInt ∧ a.toInt - b.toInt < 9223372036854775808) : (a - b).toInt = a.toInt - b.toInt := by
  rw [Int64.toInt_sub]
  exact Int.bmod_eq_of_le_mul_two (by omega) (by omega)
theorem own_prod {x y : Int} (h1 : 0 ≤ x) (h2 : x ≤ 536870923) (h3 : 0 ≤ y) (h4 : y ≤ 536870923) : 0 ≤ x * y ∧ x * y ≤ 288230387970703929 := by
  have q := Int.mul_le_mul h2 h4 h3 (by omega)
  exact ⟨Int.mul_nonneg h1 h3, by omega⟩
theorem own_modI {a : Int64} (h : 0 ≤ a.toInt) : (a % (536870923 : Int64)).toInt = a.toInt % 536870923 := by
  have e : ((536870923 : Int64)).toInt = 536870923 := by decide
  rw [Int64.toInt_mod, e, Int.tmod_eq_emod_of_nonneg h]
theorem own_residue (r f : Int64) (h1 : 0 ≤ r.toInt ∧ r.toInt < 536870923) (h2 : 0 ≤ f.toInt ∧ f.toInt < 536870923) : ¬ (lcmpW ((r * f) % (536870923 : Int64)) (0 : Int64) < (0 : Int32)) ∧ lcmpW ((r * f) % (536870923 : Int64)) (536870923 : Int64) < (0 : Int32) ∧ lcmpW (((r * f) - ((r * f) % (536870923 : Int64))) % (536870923 : Int64)) (0 : Int64) = (0 : Int32) := by
  have q := own_prod h1.1 (by omega) h2.1 (by omega : f.toInt ≤ 536870923)
  have e1 : (r * f).toInt = r.toInt * f.toInt := own_mulI (by omega)
  have e2 : ((r * f) % (536870923 : Int64)).toInt = (r.toInt * f.toInt) % 536870923 := by rw [own_modI (by omega), e1]
  generalize r.toInt * f.toInt = X at *
  have e3 : ((r * f) - ((r * f) % (536870923 : Int64))).toInt = X - X % 536870923 := by rw [own_subI (by omega), e1, e2]
  have e4 : (((r * f) - ((r * f) % (536870923 : Int64))) % (536870923 : Int64)).toInt = 0 := by rw [own_modI (by omega), e3]; omega
  have z : (0 : Int64).toInt = 0 := by decide
  have zP : ((536870923 : Int64)).toInt = 536870923 := by decide
  exact ⟨own_c1 (by omega), own_c0 (by omega), own_c2 (by omega)⟩
theorem tw_1 {a0 : Array Value} {Z : State} (hw : ∀ d ∈ tables_1, d.before a0 Z = true) : (Jvm.Cond.initialized "com/example/subsumption/subsumption/SquareSystem").before a0 Z = true := hw _ (List.mem_of_getElem? (i := 1) rfl)
theorem tw_2 {a0 : Array Value} {Z : State} (hw : ∀ d ∈ tables_1, d.before a0 Z = true) : (Jvm.Cond.laysStatic "com/example/subsumption/subsumption/SquareSystem" "PRIME" "J").before a0 Z = true := hw _ (List.mem_of_getElem? (i := 2) rfl)
abbrev S_0 (Z : State) (h : Heap) (v : Value) : Prop := Sta Z h "com/example/subsumption/subsumption/SquareSystem" "PRIME" "J" v
theorem tw_0 {a0 : Array Value} {Z : State} (hw : ∀ d ∈ tables_1, d.before a0 Z = true) : (Jvm.Cond.fieldLink "com/example/subsumption/subsumption/SquareSystemMultiplyPinLaw" (7 : Nat) "com/example/subsumption/subsumption/SquareSystem" "PRIME" "J").before a0 Z = true := hw _ (List.mem_of_getElem? (i := 0) rfl)
theorem tw_3 {a0 : Array Value} {Z : State} (hw : ∀ d ∈ tables_1, d.before a0 Z = true) : (Jvm.Cond.constantLong "com/example/subsumption/subsumption/SquareSystemMultiplyPinLaw" (15 : Nat) (9223372036854775807 : Int64)).before a0 Z = true := hw _ (List.mem_of_getElem? (i := 3) rfl)
theorem tw_4 {a0 : Array Value} {Z : State} (hw : ∀ d ∈ tables_1, d.before a0 Z = true) : (Jvm.Cond.arrayClass Jvm.ClassFile.FieldType.long).before a0 Z = true := hw _ (List.mem_of_getElem? (i := 4) rfl)
theorem tw_5 {a0 : Array Value} {Z : State} (hw : ∀ d ∈ tables_1, d.before a0 Z = true) : (Jvm.Cond.methodLink "com/example/subsumption/subsumption/SquareSystemMultiplyPinLaw" (17 : Nat) ({ cls := "com/example/subsumption/subsumption/SquareSystem", name := "multiply", desc := "([JJ)V" } : Jvm.MethodName)).before a0 Z = true := hw _ (List.mem_of_getElem? (i := 5) rfl)
theorem tw_7 {a0 : Array Value} {Z : State} (hw : ∀ d ∈ tables_1, d.before a0 Z = true) : (Jvm.Cond.code ({ cls := "com/example/subsumption/subsumption/SquareSystem", name := "multiply", desc := "([JJ)V" } : Jvm.MethodName) prog_16_method_11_code (4 : Nat) (Option.none : Option Jvm.ClassFile.FieldType)).before a0 Z = true := hw _ (List.mem_of_getElem? (i := 7) rfl)
theorem d1_0 : decode prog_16_method_11_code 0 = .ok (.iconst 0, 1) := by decide +kernel
theorem d1_1 : decode prog_16_method_11_code 1 = .ok (.istore_n 3, 1) := by decide +kernel
theorem d1_2 : decode prog_16_method_11_code 2 = .ok (.iload_n 3, 1) := by decide +kernel
theorem d1_3 : decode prog_16_method_11_code 3 = .ok (.aload_n 0, 1) := by decide +kernel
theorem d1_4 : decode prog_16_method_11_code 4 = .ok (.arraylength, 1) := by decide +kernel
theorem d1_5 : decode prog_16_method_11_code 5 = .ok (.if_icmp .ge 21, 3) := by decide +kernel
theorem d1_8 : decode prog_16_method_11_code 8 = .ok (.aload_n 0, 1) := by decide +kernel
theorem d1_9 : decode prog_16_method_11_code 9 = .ok (.iload_n 3, 1) := by decide +kernel
theorem d1_10 : decode prog_16_method_11_code 10 = .ok (.aload_n 0, 1) := by decide +kernel
theorem d1_11 : decode prog_16_method_11_code 11 = .ok (.iload_n 3, 1) := by decide +kernel
theorem d1_12 : decode prog_16_method_11_code 12 = .ok (.laload, 1) := by decide +kernel
theorem d1_13 : decode prog_16_method_11_code 13 = .ok (.lload_n 1, 1) := by decide +kernel
theorem d1_14 : decode prog_16_method_11_code 14 = .ok (.lmul, 1) := by decide +kernel
theorem d1_15 : decode prog_16_method_11_code 15 = .ok (.getstatic 295, 3) := by decide +kernel
theorem tw_8 {a0 : Array Value} {Z : State} (hw : ∀ d ∈ tables_1, d.before a0 Z = true) : (Jvm.Cond.fieldLink "com/example/subsumption/subsumption/SquareSystem" (295 : Nat) "com/example/subsumption/subsumption/SquareSystem" "PRIME" "J").before a0 Z = true := hw _ (List.mem_of_getElem? (i := 8) rfl)
theorem d1_18 : decode prog_16_method_11_code 18 = .ok (.lrem, 1) := by decide +kernel
theorem d1_19 : decode prog_16_method_11_code 19 = .ok (.lastore, 1) := by decide +kernel
theorem d1_20 : decode prog_16_method_11_code 20 = .ok (.iinc 3 1, 3) := by decide +kernel
theorem d1_23 : decode prog_16_method_11_code 23 = .ok (.goto (-21), 3) := by decide +kernel
theorem d1_26 : decode prog_16_method_11_code 26 = .ok (.return_, 1) := by decide +kernel
abbrev R_0_0_0_0 : Room := { frames := 0, cells := 0, slots := 0, locals := 0 }
abbrev M_0 : MethodName := ⟨"com/example/subsumption/subsumption/SquareSystem", "multiply", "([JJ)V"⟩
theorem ef1_RJ (m : MethodId) (x0 : Addr) (x1 : Int64) : entryFrame m #[(.ref x0), (.long x1)] 4 = mkF m 0 #[.val (.ref x0), .val (.long x1), .second, .unset] [] := by first | (simp [entryFrame, mkF, argsToLocals, Value.category]; done) | rfl
def Q1_4 (Z : State) (c0_a : Addr) (c1_k : ClassId) (jm0 : Int64) (jm1 : Int64) (jm2 : Int64) (h0 : Heap) (n0 : Nat) (v : Option Value) (h : Heap) (L : List Loc) : Prop := v = none ∧ Fr n0 L ∧ Keep h0 h [c0_a] ∧ Arv Z h c0_a c1_k .long (3 : Int32) [(.long jm0), (.long jm1), (.long jm2)] (.long 0)
theorem pn_com_example_subsumption_subsumption_SquareSystem : plainName "com/example/subsumption/subsumption/SquareSystem" = true := by first | (simp [plainName, overriddenIn]; done) | decide +kernel
set_option maxRecDepth 65536 in
set_option maxHeartbeats 40000000 in
theorem rm1_3 (l : Launch) (Z : State) (a0 : Array Value) (hw : ∀ d ∈ tables_1, d.before a0 Z = true) (ws : List Jvm.Cond) (c0_a : Addr) (jr3 : Int64) (c1_k : ClassId) (jr0 : Int64) (jr1 : Int64) (jr2 : Int64) (jm0 : Int64) (jm1 : Int64) (jm2 : Int64) (h0 : Heap) (n0 : Nat) (Z0 : n0 ≤ h0.size) (f1 : Arv Z h0 c0_a c1_k .long (3 : Int32) [(.long jr0), (.long jr1), (.long jr2)] (.long 0)) (f2 : S_0 Z h0 (.long 536870923)) (f3 : ((jr0 * jr3) % (536870923 : Int64)) = jm0) (f4 : n0 ≤ c0_a) (f5 : ((jr1 * jr3) % (536870923 : Int64)) = jm1) (f6 : ((jr2 * jr3) % (536870923 : Int64)) = jm2) :
    MetFree l M_0 (head1 (Jvm.Cond.code M_0 prog_16_method_11_code 4 none :: ws) R_0_0_0_0) (fun a U => a = #[(.ref c0_a), (.long jr3)] ∧ Z.Warmed39 U.vm ∧ U.heap = h0) (fun _ _ _ _ _ => True) (fun _ U o U' => ∃ v L, o = .returned v ∧ Q1_4 Z c0_a c1_k jm0 jm1 jm2 h0 n0 v U'.heap L ∧ FrameEnd U o U' L R_0_0_0_0.cells R_0_0_0_0.slots) := by
  refine MetFree.of_bodySF (plainFor_of_name pn_com_example_subsumption_subsumption_SquareSystem) hisR ?_
  intro p e s m args below meth c s₁ Bd hml0 hP hK
  obtain ⟨rfl, hZ, hh⟩ := hP
  have hx := Bd.exec
  have hby := Bd.bytes
  have hml : c.maxLocals = 4 := hml0
  have hown : s.vm.findClass "com/example/subsumption/subsumption/SquareSystem" = some m.cls := findClass_of_methodNamed Bd.named
  have hnm := (name_of_methodNamed Bd.named Bd.method).1
  have X0 : Stand p l e R_0_0_0_0 s m #[(.ref c0_a), (.long jr3)] below meth c s₁ [] 0 0 := Stand.of_body Bd
  have e0 : s₁.heap = h0 := by rw [← hh, Bd.state]; rfl
  have N0 := Fr.nil n0
  have va1 := f1
  obtain ⟨cl1, Ar1, -, S1, N1_, -, -⟩ := va1
  have va2 := f1
  obtain ⟨cl2, Ar2, -, S2, -, H2, -⟩ := va2
  have hin2 : ¬ ((0 : Int32) < 0 ∨ cl2.slots.size ≤ ((0 : Int32)).toNatClampNeg) := inb_of S2 ⟨by decide, by decide⟩
  have hat2 : cl2.slots[((0 : Int32)).toNatClampNeg]? = some (.long jr0) := H2 _ (Nat.lt_of_not_le fun y => hin2 (Or.inr y))
  obtain ⟨T3, X3, e3, st3⟩ := getS2 X0 hx hZ hown (host := "") (Or.inl (tw_8 hw)) Via.refl e0 f2 (g := (mkF m 15 #[.val (.ref c0_a), .val (.long jr3), .second, .val (.int 0)] [(.long (jr0 * jr3)), (.int 0), (.ref c0_a)])) rfl (hb hby d1_15)
  have va4 := f1
  obtain ⟨cl4, Ar4, q4, S4, N4_, H4, G4⟩ := va4
  have hin4 : ¬ ((0 : Int32) < 0 ∨ cl4.slots.size ≤ ((0 : Int32)).toNatClampNeg) := inb_of S4 ⟨by decide, by decide⟩
  obtain ⟨T5, h5, X5, e5, W5, st5⟩ := stJ X3 hx hZ e3 Ar4 (j := (0 : Int32)) hin4 (g := (mkF m 19 #[.val (.ref c0_a), .val (.long jr3), .second, .val (.int 0)] [(.long jm0), (.int 0), (.ref c0_a)])) rfl rfl (hb hby d1_19)
  have Vw5 : Arv Z h5 c0_a c1_k .long (3 : Int32) [(.long jm0), (.long jr1), (.long jr2)] (.long 0) := Arv.set Ar4 q4 S4 N4_ H4 G4 rfl W5 0 rfl (Nat.le_of_ble_eq_true rfl)
  have KK5 : Keep h0 h5 [c0_a] := (Keep.refl h0 [c0_a]).wr W5 (Or.inl (List.mem_of_getElem? (i := 0) rfl))
  have N5 := Fr.snoc X5 N0 f4
  have va6 := Vw5
  obtain ⟨cl6, Ar6, -, S6, N6_, -, -⟩ := va6
  have va7 := Vw5
  obtain ⟨cl7, Ar7, -, S7, -, H7, -⟩ := va7
  have hin7 : ¬ ((1 : Int32) < 0 ∨ cl7.slots.size ≤ ((1 : Int32)).toNatClampNeg) := inb_of S7 ⟨by decide, by decide⟩
  have hat7 : cl7.slots[((1 : Int32)).toNatClampNeg]? = some (.long jr1) := H7 _ (Nat.lt_of_not_le fun y => hin7 (Or.inr y))
  have u8 : S_0 Z h5 (.long 536870923) := Sta.wr W5 f2
  obtain ⟨T9, X9, e9, st9⟩ := getS2 X5 hx hZ hown (host := "") (Or.inl (tw_8 hw)) Via.refl e5 u8 (g := (mkF m 15 #[.val (.ref c0_a), .val (.long jr3), .second, .val (.int 1)] [(.long (jr1 * jr3)), (.int 1), (.ref c0_a)])) rfl (hb hby d1_15)
  have va10 := Vw5
  obtain ⟨cl10, Ar10, q10, S10, N10_, H10, G10⟩ := va10
  have hin10 : ¬ ((1 : Int32) < 0 ∨ cl10.slots.size ≤ ((1 : Int32)).toNatClampNeg) := inb_of S10 ⟨by decide, by decide⟩
  obtain ⟨T11, h11, X11, e11, W11, st11⟩ := stJ X9 hx hZ e9 Ar10 (j := (1 : Int32)) hin10 (g := (mkF m 19 #[.val (.ref c0_a), .val (.long jr3), .second, .val (.int 1)] [(.long jm1), (.int 1), (.ref c0_a)])) rfl rfl (hb hby d1_19)
  have Vw11 : Arv Z h11 c0_a c1_k .long (3 : Int32) [(.long jm0), (.long jm1), (.long jr2)] (.long 0) := Arv.set Ar10 q10 S10 N10_ H10 G10 rfl W11 1 rfl (Nat.le_of_ble_eq_true rfl)
  have KK11 : Keep h0 h11 [c0_a] := KK5.wr W11 (Or.inl (List.mem_of_getElem? (i := 0) rfl))
  have N11 := Fr.snoc X11 N5 f4
  have va12 := Vw11
  obtain ⟨cl12, Ar12, -, S12, N12_, -, -⟩ := va12
  have va13 := Vw11
  obtain ⟨cl13, Ar13, -, S13, -, H13, -⟩ := va13
  have hin13 : ¬ ((2 : Int32) < 0 ∨ cl13.slots.size ≤ ((2 : Int32)).toNatClampNeg) := inb_of S13 ⟨by decide, by decide⟩
  have hat13 : cl13.slots[((2 : Int32)).toNatClampNeg]? = some (.long jr2) := H13 _ (Nat.lt_of_not_le fun y => hin13 (Or.inr y))
  have u14 : S_0 Z h11 (.long 536870923) := Sta.wr W11 u8
  obtain ⟨T15, X15, e15, st15⟩ := getS2 X11 hx hZ hown (host := "") (Or.inl (tw_8 hw)) Via.refl e11 u14 (g := (mkF m 15 #[.val (.ref c0_a), .val (.long jr3), .second, .val (.int 2)] [(.long (jr2 * jr3)), (.int 2), (.ref c0_a)])) rfl (hb hby d1_15)
  have va16 := Vw11
  obtain ⟨cl16, Ar16, q16, S16, N16_, H16, G16⟩ := va16
  have hin16 : ¬ ((2 : Int32) < 0 ∨ cl16.slots.size ≤ ((2 : Int32)).toNatClampNeg) := inb_of S16 ⟨by decide, by decide⟩
  obtain ⟨T17, h17, X17, e17, W17, st17⟩ := stJ X15 hx hZ e15 Ar16 (j := (2 : Int32)) hin16 (g := (mkF m 19 #[.val (.ref c0_a), .val (.long jr3), .second, .val (.int 2)] [(.long jm2), (.int 2), (.ref c0_a)])) rfl rfl (hb hby d1_19)
  have Vw17 : Arv Z h17 c0_a c1_k .long (3 : Int32) [(.long jm0), (.long jm1), (.long jm2)] (.long 0) := Arv.set Ar16 q16 S16 N16_ H16 G16 rfl W17 2 rfl (Nat.le_of_ble_eq_true rfl)
  have KK17 : Keep h0 h17 [c0_a] := KK11.wr W17 (Or.inl (List.mem_of_getElem? (i := 0) rfl))
  have N17 := Fr.snoc X17 N11 f4
  have va18 := Vw17
  obtain ⟨cl18, Ar18, -, S18, N18_, -, -⟩ := va18
  obtain ⟨fs, hr, hrun, hended, hW, hsame⟩ := X17.leave (v := none) (fun _ => rfl)
  refine ⟨_, _, castTop (ef1_RJ m c0_a jr3) ?_, hrun, hended, _, _, rfl, ?_, ⟨_, rfl⟩, hW, hsame.mono (by decide) (by decide)⟩
  · show Steps p.tables e below (s₁.setTop (mkF m 0 #[.val (.ref c0_a), .val (.long jr3), .second, .unset] [])) _
    refine XS.iconst X0.here hx rfl (hb hby d1_0) ?_
    refine XS.istoreN X0.here hx rfl (hb hby d1_1) rfl (l' := #[.val (.ref c0_a), .val (.long jr3), .second, .val (.int 0)]) rfl ?_
    refine XS.iloadN X0.here hx rfl (hb hby d1_2) rfl ?_
    refine XS.aloadN X0.here hx rfl (hb hby d1_3) rfl rfl ?_
    show Steps p.tables e below (s₁.setTop (mkF m 4 #[.val (.ref c0_a), .val (.long jr3), .second, .val (.int 0)] [(.ref c0_a), (.int 0)])) _
    refine X0.arraylength hx (by rw [e0]; exact Ar1.1) (State.isArrayOf_alike hZ.alike Ar1.2.1) (g := (mkF m 4 #[.val (.ref c0_a), .val (.long jr3), .second, .val (.int 0)] [(.ref c0_a), (.int 0)])) rfl rfl (hb hby d1_4) _ ?_
    rw [len_of S1 N1_]
    refine XS.icmpNo X0.here hx rfl (hb hby d1_5) rfl (by decide) ?_
    refine XS.aloadN X0.here hx rfl (hb hby d1_8) rfl rfl ?_
    refine XS.iloadN X0.here hx rfl (hb hby d1_9) rfl ?_
    refine XS.aloadN X0.here hx rfl (hb hby d1_10) rfl rfl ?_
    show Steps p.tables e below (s₁.setTop (mkF m 11 #[.val (.ref c0_a), .val (.long jr3), .second, .val (.int 0)] [(.ref c0_a), (.int 0), (.ref c0_a)])) _
    refine XS.iloadN X0.here hx rfl (hb hby d1_11) rfl ?_
    show Steps p.tables e below (s₁.setTop (mkF m 12 #[.val (.ref c0_a), .val (.long jr3), .second, .val (.int 0)] [(.int 0), (.ref c0_a), (.int 0), (.ref c0_a)])) _
    refine X0.laload hx (j := (0 : Int32)) (v := (.long jr0)) (by rw [e0]; exact Ar2.1) (State.isArrayOf_alike hZ.alike Ar2.2.1) Ar2.2.2 hin2 hat2 (g := (mkF m 12 #[.val (.ref c0_a), .val (.long jr3), .second, .val (.int 0)] [(.int 0), (.ref c0_a), (.int 0), (.ref c0_a)])) rfl rfl (hb hby d1_12) _ ?_
    refine XS.lloadN X0.here hx rfl (hb hby d1_13) rfl ?_
    show Steps p.tables e below (s₁.setTop (mkF m 14 #[.val (.ref c0_a), .val (.long jr3), .second, .val (.int 0)] [(.long jr3), (.long jr0), (.int 0), (.ref c0_a)])) _
    refine XS.lmul X0.here hx rfl (hb hby d1_14) rfl ?_
    show Steps p.tables e below (s₁.setTop (mkF m 15 #[.val (.ref c0_a), .val (.long jr3), .second, .val (.int 0)] [(.long (jr0 * jr3)), (.int 0), (.ref c0_a)])) _
    refine st3 _ ?_
    show Steps p.tables e below (T3.setTop (mkF m 18 #[.val (.ref c0_a), .val (.long jr3), .second, .val (.int 0)] [(.long 536870923), (.long (jr0 * jr3)), (.int 0), (.ref c0_a)])) _
    refine own_lremM X3 hx rfl (hb hby d1_18) rfl (by decide) ?_
    show Steps p.tables e below (T3.setTop (mkF m 19 #[.val (.ref c0_a), .val (.long jr3), .second, .val (.int 0)] [(.long ((jr0 * jr3) % (536870923 : Int64))), (.int 0), (.ref c0_a)])) _
    rw [f3]
    show Steps p.tables e below (T3.setTop (mkF m 19 #[.val (.ref c0_a), .val (.long jr3), .second, .val (.int 0)] [(.long jm0), (.int 0), (.ref c0_a)])) _
    refine st5 _ ?_
    show Steps p.tables e below (T5.setTop (mkF m 20 #[.val (.ref c0_a), .val (.long jr3), .second, .val (.int 0)] [])) _
    refine XS.iinc X5.here hx rfl (hb hby d1_20) rfl (l' := #[.val (.ref c0_a), .val (.long jr3), .second, .val (.int ((0 : Int32) + (1 : Int32)))]) rfl ?_
    show Steps p.tables e below (T5.setTop (mkF m 23 #[.val (.ref c0_a), .val (.long jr3), .second, .val (.int ((0 : Int32) + (1 : Int32)))] [])) _
    rw [show ((0 : Int32) + (1 : Int32)) = (1 : Int32) from by decide]
    refine XS.goto X5.here hx rfl (pc0 := 23) (pc' := 2) rfl (hb hby d1_23) (by decide) (by decide) ?_
    refine XS.iloadN X5.here hx rfl (hb hby d1_2) rfl ?_
    refine XS.aloadN X5.here hx rfl (hb hby d1_3) rfl rfl ?_
    show Steps p.tables e below (T5.setTop (mkF m 4 #[.val (.ref c0_a), .val (.long jr3), .second, .val (.int 1)] [(.ref c0_a), (.int 1)])) _
    refine X5.arraylength hx (by rw [e5]; exact Ar6.1) (State.isArrayOf_alike hZ.alike Ar6.2.1) (g := (mkF m 4 #[.val (.ref c0_a), .val (.long jr3), .second, .val (.int 1)] [(.ref c0_a), (.int 1)])) rfl rfl (hb hby d1_4) _ ?_
    rw [len_of S6 N6_]
    refine XS.icmpNo X5.here hx rfl (hb hby d1_5) rfl (by decide) ?_
    refine XS.aloadN X5.here hx rfl (hb hby d1_8) rfl rfl ?_
    refine XS.iloadN X5.here hx rfl (hb hby d1_9) rfl ?_
    refine XS.aloadN X5.here hx rfl (hb hby d1_10) rfl rfl ?_
    show Steps p.tables e below (T5.setTop (mkF m 11 #[.val (.ref c0_a), .val (.long jr3), .second, .val (.int 1)] [(.ref c0_a), (.int 1), (.ref c0_a)])) _
    refine XS.iloadN X5.here hx rfl (hb hby d1_11) rfl ?_
    show Steps p.tables e below (T5.setTop (mkF m 12 #[.val (.ref c0_a), .val (.long jr3), .second, .val (.int 1)] [(.int 1), (.ref c0_a), (.int 1), (.ref c0_a)])) _
    refine X5.laload hx (j := (1 : Int32)) (v := (.long jr1)) (by rw [e5]; exact Ar7.1) (State.isArrayOf_alike hZ.alike Ar7.2.1) Ar7.2.2 hin7 hat7 (g := (mkF m 12 #[.val (.ref c0_a), .val (.long jr3), .second, .val (.int 1)] [(.int 1), (.ref c0_a), (.int 1), (.ref c0_a)])) rfl rfl (hb hby d1_12) _ ?_
    refine XS.lloadN X5.here hx rfl (hb hby d1_13) rfl ?_
    show Steps p.tables e below (T5.setTop (mkF m 14 #[.val (.ref c0_a), .val (.long jr3), .second, .val (.int 1)] [(.long jr3), (.long jr1), (.int 1), (.ref c0_a)])) _
    refine XS.lmul X5.here hx rfl (hb hby d1_14) rfl ?_
    show Steps p.tables e below (T5.setTop (mkF m 15 #[.val (.ref c0_a), .val (.long jr3), .second, .val (.int 1)] [(.long (jr1 * jr3)), (.int 1), (.ref c0_a)])) _
    refine st9 _ ?_
    show Steps p.tables e below (T9.setTop (mkF m 18 #[.val (.ref c0_a), .val (.long jr3), .second, .val (.int 1)] [(.long 536870923), (.long (jr1 * jr3)), (.int 1), (.ref c0_a)])) _
    refine own_lremM X9 hx rfl (hb hby d1_18) rfl (by decide) ?_
    show Steps p.tables e below (T9.setTop (mkF m 19 #[.val (.ref c0_a), .val (.long jr3), .second, .val (.int 1)] [(.long ((jr1 * jr3) % (536870923 : Int64))), (.int 1), (.ref c0_a)])) _
    rw [f5]
    show Steps p.tables e below (T9.setTop (mkF m 19 #[.val (.ref c0_a), .val (.long jr3), .second, .val (.int 1)] [(.long jm1), (.int 1), (.ref c0_a)])) _
    refine st11 _ ?_
    show Steps p.tables e below (T11.setTop (mkF m 20 #[.val (.ref c0_a), .val (.long jr3), .second, .val (.int 1)] [])) _
    refine XS.iinc X11.here hx rfl (hb hby d1_20) rfl (l' := #[.val (.ref c0_a), .val (.long jr3), .second, .val (.int ((1 : Int32) + (1 : Int32)))]) rfl ?_
    show Steps p.tables e below (T11.setTop (mkF m 23 #[.val (.ref c0_a), .val (.long jr3), .second, .val (.int ((1 : Int32) + (1 : Int32)))] [])) _
    rw [show ((1 : Int32) + (1 : Int32)) = (2 : Int32) from by decide]
    refine XS.goto X11.here hx rfl (pc0 := 23) (pc' := 2) rfl (hb hby d1_23) (by decide) (by decide) ?_
    refine XS.iloadN X11.here hx rfl (hb hby d1_2) rfl ?_
    refine XS.aloadN X11.here hx rfl (hb hby d1_3) rfl rfl ?_
    show Steps p.tables e below (T11.setTop (mkF m 4 #[.val (.ref c0_a), .val (.long jr3), .second, .val (.int 2)] [(.ref c0_a), (.int 2)])) _
    refine X11.arraylength hx (by rw [e11]; exact Ar12.1) (State.isArrayOf_alike hZ.alike Ar12.2.1) (g := (mkF m 4 #[.val (.ref c0_a), .val (.long jr3), .second, .val (.int 2)] [(.ref c0_a), (.int 2)])) rfl rfl (hb hby d1_4) _ ?_
    rw [len_of S12 N12_]
    refine XS.icmpNo X11.here hx rfl (hb hby d1_5) rfl (by decide) ?_
    refine XS.aloadN X11.here hx rfl (hb hby d1_8) rfl rfl ?_
    refine XS.iloadN X11.here hx rfl (hb hby d1_9) rfl ?_
    refine XS.aloadN X11.here hx rfl (hb hby d1_10) rfl rfl ?_
    show Steps p.tables e below (T11.setTop (mkF m 11 #[.val (.ref c0_a), .val (.long jr3), .second, .val (.int 2)] [(.ref c0_a), (.int 2), (.ref c0_a)])) _
    refine XS.iloadN X11.here hx rfl (hb hby d1_11) rfl ?_
    show Steps p.tables e below (T11.setTop (mkF m 12 #[.val (.ref c0_a), .val (.long jr3), .second, .val (.int 2)] [(.int 2), (.ref c0_a), (.int 2), (.ref c0_a)])) _
    refine X11.laload hx (j := (2 : Int32)) (v := (.long jr2)) (by rw [e11]; exact Ar13.1) (State.isArrayOf_alike hZ.alike Ar13.2.1) Ar13.2.2 hin13 hat13 (g := (mkF m 12 #[.val (.ref c0_a), .val (.long jr3), .second, .val (.int 2)] [(.int 2), (.ref c0_a), (.int 2), (.ref c0_a)])) rfl rfl (hb hby d1_12) _ ?_
    refine XS.lloadN X11.here hx rfl (hb hby d1_13) rfl ?_
    show Steps p.tables e below (T11.setTop (mkF m 14 #[.val (.ref c0_a), .val (.long jr3), .second, .val (.int 2)] [(.long jr3), (.long jr2), (.int 2), (.ref c0_a)])) _
    refine XS.lmul X11.here hx rfl (hb hby d1_14) rfl ?_
    show Steps p.tables e below (T11.setTop (mkF m 15 #[.val (.ref c0_a), .val (.long jr3), .second, .val (.int 2)] [(.long (jr2 * jr3)), (.int 2), (.ref c0_a)])) _
    refine st15 _ ?_
    show Steps p.tables e below (T15.setTop (mkF m 18 #[.val (.ref c0_a), .val (.long jr3), .second, .val (.int 2)] [(.long 536870923), (.long (jr2 * jr3)), (.int 2), (.ref c0_a)])) _
    refine own_lremM X15 hx rfl (hb hby d1_18) rfl (by decide) ?_
    show Steps p.tables e below (T15.setTop (mkF m 19 #[.val (.ref c0_a), .val (.long jr3), .second, .val (.int 2)] [(.long ((jr2 * jr3) % (536870923 : Int64))), (.int 2), (.ref c0_a)])) _
    rw [f6]
    show Steps p.tables e below (T15.setTop (mkF m 19 #[.val (.ref c0_a), .val (.long jr3), .second, .val (.int 2)] [(.long jm2), (.int 2), (.ref c0_a)])) _
    refine st17 _ ?_
    show Steps p.tables e below (T17.setTop (mkF m 20 #[.val (.ref c0_a), .val (.long jr3), .second, .val (.int 2)] [])) _
    refine XS.iinc X17.here hx rfl (hb hby d1_20) rfl (l' := #[.val (.ref c0_a), .val (.long jr3), .second, .val (.int ((2 : Int32) + (1 : Int32)))]) rfl ?_
    show Steps p.tables e below (T17.setTop (mkF m 23 #[.val (.ref c0_a), .val (.long jr3), .second, .val (.int ((2 : Int32) + (1 : Int32)))] [])) _
    rw [show ((2 : Int32) + (1 : Int32)) = (3 : Int32) from by decide]
    refine XS.goto X17.here hx rfl (pc0 := 23) (pc' := 2) rfl (hb hby d1_23) (by decide) (by decide) ?_
    refine XS.iloadN X17.here hx rfl (hb hby d1_2) rfl ?_
    refine XS.aloadN X17.here hx rfl (hb hby d1_3) rfl rfl ?_
    show Steps p.tables e below (T17.setTop (mkF m 4 #[.val (.ref c0_a), .val (.long jr3), .second, .val (.int 3)] [(.ref c0_a), (.int 3)])) _
    refine X17.arraylength hx (by rw [e17]; exact Ar18.1) (State.isArrayOf_alike hZ.alike Ar18.2.1) (g := (mkF m 4 #[.val (.ref c0_a), .val (.long jr3), .second, .val (.int 3)] [(.ref c0_a), (.int 3)])) rfl rfl (hb hby d1_4) _ ?_
    rw [len_of S18 N18_]
    refine XS.icmpYes X17.here hx rfl (pc0 := 5) (pc' := 26) rfl (hb hby d1_5) rfl (by decide) (by decide) (by decide) ?_
    show Steps p.tables e below (T17.setTop (mkF m 26 #[.val (.ref c0_a), .val (.long jr3), .second, .val (.int 3)] [])) _
    exact X17.returnOut hx Bd.returns (hb hby d1_26) hr
  · show Q1_4 Z c0_a c1_k jm0 jm1 jm2 h0 n0 _ T17.heap _
    rw [e17]
    exact ⟨rfl, N17, KK17, Vw17⟩
theorem pd_0 : parseMethodDescriptor "([JJ)V" = some ⟨[(.array .long), .long], none⟩ := by decide +kernel
theorem tw_6 {a0 : Array Value} {Z : State} (hw : ∀ d ∈ tables_1, d.before a0 Z = true) : (Jvm.Cond.static ({ cls := "com/example/subsumption/subsumption/SquareSystem", name := "multiply", desc := "([JJ)V" } : Jvm.MethodName)).before a0 Z = true := hw _ (List.mem_of_getElem? (i := 6) rfl)
theorem tw_9 {a0 : Array Value} {Z : State} (hw : ∀ d ∈ tables_1, d.before a0 Z = true) : (Jvm.Cond.methodLink "com/example/subsumption/subsumption/SquareSystemMultiplyPinLaw" (21 : Nat) ({ cls := "com/example/subsumption/subsumption/SquareSystemMultiplyPinLaw", name := "isResidueOfProduct", desc := "(JJJJ)Z" } : Jvm.MethodName)).before a0 Z = true := hw _ (List.mem_of_getElem? (i := 9) rfl)
theorem tw_12 {a0 : Array Value} {Z : State} (hw : ∀ d ∈ tables_1, d.before a0 Z = true) : (Jvm.Cond.code ({ cls := "com/example/subsumption/subsumption/SquareSystemMultiplyPinLaw", name := "isResidueOfProduct", desc := "(JJJJ)Z" } : Jvm.MethodName) method_3_code (8 : Nat) (Option.some Jvm.ClassFile.FieldType.boolean)).before a0 Z = true := hw _ (List.mem_of_getElem? (i := 12) rfl)
theorem d2_0 : decode method_3_code 0 = .ok (.lload_n 0, 1) := by decide +kernel
theorem d2_1 : decode method_3_code 1 = .ok (.lconst 0, 1) := by decide +kernel
theorem d2_2 : decode method_3_code 2 = .ok (.lcmp, 1) := by decide +kernel
theorem d2_3 : decode method_3_code 3 = .ok (.ifCond .lt 28, 3) := by decide +kernel
theorem d2_6 : decode method_3_code 6 = .ok (.lload_n 0, 1) := by decide +kernel
theorem d2_7 : decode method_3_code 7 = .ok (.lload 6, 2) := by decide +kernel
theorem d2_9 : decode method_3_code 9 = .ok (.lcmp, 1) := by decide +kernel
theorem d2_10 : decode method_3_code 10 = .ok (.ifCond .ge 21, 3) := by decide +kernel
theorem d2_13 : decode method_3_code 13 = .ok (.lload_n 2, 1) := by decide +kernel
theorem d2_14 : decode method_3_code 14 = .ok (.lload 4, 2) := by decide +kernel
theorem d2_16 : decode method_3_code 16 = .ok (.lmul, 1) := by decide +kernel
theorem d2_17 : decode method_3_code 17 = .ok (.lload_n 0, 1) := by decide +kernel
theorem d2_18 : decode method_3_code 18 = .ok (.lsub, 1) := by decide +kernel
theorem d2_19 : decode method_3_code 19 = .ok (.lload 6, 2) := by decide +kernel
theorem d2_21 : decode method_3_code 21 = .ok (.lrem, 1) := by decide +kernel
theorem d2_22 : decode method_3_code 22 = .ok (.lconst 0, 1) := by decide +kernel
theorem d2_23 : decode method_3_code 23 = .ok (.lcmp, 1) := by decide +kernel
theorem d2_24 : decode method_3_code 24 = .ok (.ifCond .ne 7, 3) := by decide +kernel
theorem d2_27 : decode method_3_code 27 = .ok (.iconst 1, 1) := by decide +kernel
theorem d2_28 : decode method_3_code 28 = .ok (.goto 4, 3) := by decide +kernel
theorem d2_32 : decode method_3_code 32 = .ok (.ireturn, 1) := by decide +kernel
abbrev M_1 : MethodName := ⟨"com/example/subsumption/subsumption/SquareSystemMultiplyPinLaw", "isResidueOfProduct", "(JJJJ)Z"⟩
theorem ef2_JJJJ (m : MethodId) (x0 : Int64) (x1 : Int64) (x2 : Int64) (x3 : Int64) : entryFrame m #[(.long x0), (.long x1), (.long x2), (.long x3)] 8 = mkF m 0 #[.val (.long x0), .second, .val (.long x1), .second, .val (.long x2), .second, .val (.long x3), .second] [] := by first | (simp [entryFrame, mkF, argsToLocals, Value.category]; done) | rfl
theorem pn_com_example_subsumption_subsumption_SquareSystemMultiplyPinLaw : plainName "com/example/subsumption/subsumption/SquareSystemMultiplyPinLaw" = true := by first | (simp [plainName, overriddenIn]; done) | decide +kernel
set_option maxRecDepth 65536 in
set_option maxHeartbeats 40000000 in
theorem rm2_5 (l : Launch) (Z : State) (a0 : Array Value) (hw : ∀ d ∈ tables_1, d.before a0 Z = true) (ws : List Jvm.Cond) (jm0 : Int64) (jr0 : Int64) (jr3 : Int64) (h0 : Heap) (n0 : Nat) (Z0 : n0 ≤ h0.size) (f1 : ¬ ((lcmpW jm0 (0 : Int64)) < (0 : Int32))) (f2 : (lcmpW jm0 (536870923 : Int64)) < (0 : Int32)) (f3 : (lcmpW (((jr0 * jr3) - jm0) % (536870923 : Int64)) (0 : Int64)) = (0 : Int32)) :
    MetFree l M_1 (head1 (Jvm.Cond.code M_1 method_3_code 8 (some .boolean) :: ws) R_0_0_0_0) (fun a U => a = #[(.long jm0), (.long jr0), (.long jr3), (.long 536870923)] ∧ Z.Warmed39 U.vm ∧ U.heap = h0) (fun _ _ _ _ _ => True) (fun _ U o U' => ∃ v L, o = .returned v ∧ QP (some (.int 1)) h0 n0 v U'.heap L ∧ FrameEnd U o U' L R_0_0_0_0.cells R_0_0_0_0.slots) := by
  refine MetFree.of_bodySF (plainFor_of_name pn_com_example_subsumption_subsumption_SquareSystemMultiplyPinLaw) hisR ?_
  intro p e s m args below meth c s₁ Bd hml0 hP hK
  obtain ⟨rfl, hZ, hh⟩ := hP
  have hx := Bd.exec
  have hby := Bd.bytes
  have hml : c.maxLocals = 8 := hml0
  have hown : s.vm.findClass "com/example/subsumption/subsumption/SquareSystemMultiplyPinLaw" = some m.cls := findClass_of_methodNamed Bd.named
  have hnm := (name_of_methodNamed Bd.named Bd.method).1
  have X0 : Stand p l e R_0_0_0_0 s m #[(.long jm0), (.long jr0), (.long jr3), (.long 536870923)] below meth c s₁ [] 0 0 := Stand.of_body Bd
  have e0 : s₁.heap = h0 := by rw [← hh, Bd.state]; rfl
  have N0 := Fr.nil n0
  obtain ⟨fs, hr, hrun, hended, hW, hsame⟩ := X0.leave (v := (some (.int 1))) (fun h => by rw [Bd.returns] at h; cases h)
  refine ⟨_, _, castTop (ef2_JJJJ m jm0 jr0 jr3 (536870923 : Int64)) ?_, hrun, hended, _, _, rfl, ?_, ⟨_, rfl⟩, hW, hsame.mono (by decide) (by decide)⟩
  · show Steps p.tables e below (s₁.setTop (mkF m 0 #[.val (.long jm0), .second, .val (.long jr0), .second, .val (.long jr3), .second, .val (.long 536870923), .second] [])) _
    refine XS.lloadN X0.here hx rfl (hb hby d2_0) rfl ?_
    refine XS.lconst X0.here hx rfl (hb hby d2_1) ?_
    show Steps p.tables e below (s₁.setTop (mkF m 2 #[.val (.long jm0), .second, .val (.long jr0), .second, .val (.long jr3), .second, .val (.long 536870923), .second] [(.long 0), (.long jm0)])) _
    refine XS.lcmp X0.here hx rfl (hb hby d2_2) rfl ?_
    refine XS.ifNo X0.here hx rfl (hb hby d2_3) rfl ((if0 _ _).trans (flt (f1 : ¬ ((lcmpW jm0 (0 : Int64)) < (0 : Int32)))).1) ?_
    refine XS.lloadN X0.here hx rfl (hb hby d2_6) rfl ?_
    refine XS.lload X0.here hx rfl (hb hby d2_7) rfl ?_
    show Steps p.tables e below (s₁.setTop (mkF m 9 #[.val (.long jm0), .second, .val (.long jr0), .second, .val (.long jr3), .second, .val (.long 536870923), .second] [(.long 536870923), (.long jm0)])) _
    refine XS.lcmp X0.here hx rfl (hb hby d2_9) rfl ?_
    refine XS.ifNo X0.here hx rfl (hb hby d2_10) rfl ((if0 _ _).trans (tlt (f2 : (lcmpW jm0 (536870923 : Int64)) < (0 : Int32))).2.1) ?_
    refine XS.lloadN X0.here hx rfl (hb hby d2_13) rfl ?_
    refine XS.lload X0.here hx rfl (hb hby d2_14) rfl ?_
    show Steps p.tables e below (s₁.setTop (mkF m 16 #[.val (.long jm0), .second, .val (.long jr0), .second, .val (.long jr3), .second, .val (.long 536870923), .second] [(.long jr3), (.long jr0)])) _
    refine XS.lmul X0.here hx rfl (hb hby d2_16) rfl ?_
    refine XS.lloadN X0.here hx rfl (hb hby d2_17) rfl ?_
    show Steps p.tables e below (s₁.setTop (mkF m 18 #[.val (.long jm0), .second, .val (.long jr0), .second, .val (.long jr3), .second, .val (.long 536870923), .second] [(.long jm0), (.long (jr0 * jr3))])) _
    refine XS.lsub X0.here hx rfl (hb hby d2_18) rfl ?_
    refine XS.lload X0.here hx rfl (hb hby d2_19) rfl ?_
    show Steps p.tables e below (s₁.setTop (mkF m 21 #[.val (.long jm0), .second, .val (.long jr0), .second, .val (.long jr3), .second, .val (.long 536870923), .second] [(.long 536870923), (.long ((jr0 * jr3) - jm0))])) _
    refine own_lremM X0 hx rfl (hb hby d2_21) rfl (by decide) ?_
    refine XS.lconst X0.here hx rfl (hb hby d2_22) ?_
    show Steps p.tables e below (s₁.setTop (mkF m 23 #[.val (.long jm0), .second, .val (.long jr0), .second, .val (.long jr3), .second, .val (.long 536870923), .second] [(.long 0), (.long (((jr0 * jr3) - jm0) % (536870923 : Int64)))])) _
    refine XS.lcmp X0.here hx rfl (hb hby d2_23) rfl ?_
    refine XS.ifNo X0.here hx rfl (hb hby d2_24) rfl ((if0 _ _).trans (teq (f3 : (lcmpW (((jr0 * jr3) - jm0) % (536870923 : Int64)) (0 : Int64)) = (0 : Int32))).2) ?_
    refine XS.iconst X0.here hx rfl (hb hby d2_27) ?_
    refine XS.goto X0.here hx rfl (pc0 := 28) (pc' := 32) rfl (hb hby d2_28) (by decide) (by decide) ?_
    show Steps p.tables e below (s₁.setTop (mkF m 32 #[.val (.long jm0), .second, .val (.long jr0), .second, .val (.long jr3), .second, .val (.long 536870923), .second] [(.int 1)])) _
    exact retN X0 hx (t := .boolean) Bd.returns (by simp) (hb hby d2_32) hr
  · show QP (some (.int 1)) h0 n0 _ s₁.heap _
    rw [e0]
    exact ⟨rfl, N0, rfl⟩
theorem tw_11 {a0 : Array Value} {Z : State} (hw : ∀ d ∈ tables_1, d.before a0 Z = true) : (Jvm.Cond.initialized "com/example/subsumption/subsumption/SquareSystemMultiplyPinLaw").before a0 Z = true := hw _ (List.mem_of_getElem? (i := 11) rfl)
theorem pd_1 : parseMethodDescriptor "(JJJJ)Z" = some ⟨[.long, .long, .long, .long], some .boolean⟩ := by decide +kernel
theorem tw_10 {a0 : Array Value} {Z : State} (hw : ∀ d ∈ tables_1, d.before a0 Z = true) : (Jvm.Cond.static ({ cls := "com/example/subsumption/subsumption/SquareSystemMultiplyPinLaw", name := "isResidueOfProduct", desc := "(JJJJ)Z" } : Jvm.MethodName)).before a0 Z = true := hw _ (List.mem_of_getElem? (i := 10) rfl)
set_option maxRecDepth 65536 in
set_option maxHeartbeats 40000000 in
theorem rm2_6 (l : Launch) (Z : State) (a0 : Array Value) (hw : ∀ d ∈ tables_1, d.before a0 Z = true) (ws : List Jvm.Cond) (jm1 : Int64) (jr1 : Int64) (jr3 : Int64) (h0 : Heap) (n0 : Nat) (Z0 : n0 ≤ h0.size) (f1 : ¬ ((lcmpW jm1 (0 : Int64)) < (0 : Int32))) (f2 : (lcmpW jm1 (536870923 : Int64)) < (0 : Int32)) (f3 : (lcmpW (((jr1 * jr3) - jm1) % (536870923 : Int64)) (0 : Int64)) = (0 : Int32)) :
    MetFree l M_1 (head1 (Jvm.Cond.code M_1 method_3_code 8 (some .boolean) :: ws) R_0_0_0_0) (fun a U => a = #[(.long jm1), (.long jr1), (.long jr3), (.long 536870923)] ∧ Z.Warmed39 U.vm ∧ U.heap = h0) (fun _ _ _ _ _ => True) (fun _ U o U' => ∃ v L, o = .returned v ∧ QP (some (.int 1)) h0 n0 v U'.heap L ∧ FrameEnd U o U' L R_0_0_0_0.cells R_0_0_0_0.slots) := by
  refine MetFree.of_bodySF (plainFor_of_name pn_com_example_subsumption_subsumption_SquareSystemMultiplyPinLaw) hisR ?_
  intro p e s m args below meth c s₁ Bd hml0 hP hK
  obtain ⟨rfl, hZ, hh⟩ := hP
  have hx := Bd.exec
  have hby := Bd.bytes
  have hml : c.maxLocals = 8 := hml0
  have hown : s.vm.findClass "com/example/subsumption/subsumption/SquareSystemMultiplyPinLaw" = some m.cls := findClass_of_methodNamed Bd.named
  have hnm := (name_of_methodNamed Bd.named Bd.method).1
  have X0 : Stand p l e R_0_0_0_0 s m #[(.long jm1), (.long jr1), (.long jr3), (.long 536870923)] below meth c s₁ [] 0 0 := Stand.of_body Bd
  have e0 : s₁.heap = h0 := by rw [← hh, Bd.state]; rfl
  have N0 := Fr.nil n0
  obtain ⟨fs, hr, hrun, hended, hW, hsame⟩ := X0.leave (v := (some (.int 1))) (fun h => by rw [Bd.returns] at h; cases h)
  refine ⟨_, _, castTop (ef2_JJJJ m jm1 jr1 jr3 (536870923 : Int64)) ?_, hrun, hended, _, _, rfl, ?_, ⟨_, rfl⟩, hW, hsame.mono (by decide) (by decide)⟩
  · show Steps p.tables e below (s₁.setTop (mkF m 0 #[.val (.long jm1), .second, .val (.long jr1), .second, .val (.long jr3), .second, .val (.long 536870923), .second] [])) _
    refine XS.lloadN X0.here hx rfl (hb hby d2_0) rfl ?_
    refine XS.lconst X0.here hx rfl (hb hby d2_1) ?_
    show Steps p.tables e below (s₁.setTop (mkF m 2 #[.val (.long jm1), .second, .val (.long jr1), .second, .val (.long jr3), .second, .val (.long 536870923), .second] [(.long 0), (.long jm1)])) _
    refine XS.lcmp X0.here hx rfl (hb hby d2_2) rfl ?_
    refine XS.ifNo X0.here hx rfl (hb hby d2_3) rfl ((if0 _ _).trans (flt (f1 : ¬ ((lcmpW jm1 (0 : Int64)) < (0 : Int32)))).1) ?_
    refine XS.lloadN X0.here hx rfl (hb hby d2_6) rfl ?_
    refine XS.lload X0.here hx rfl (hb hby d2_7) rfl ?_
    show Steps p.tables e below (s₁.setTop (mkF m 9 #[.val (.long jm1), .second, .val (.long jr1), .second, .val (.long jr3), .second, .val (.long 536870923), .second] [(.long 536870923), (.long jm1)])) _
    refine XS.lcmp X0.here hx rfl (hb hby d2_9) rfl ?_
    refine XS.ifNo X0.here hx rfl (hb hby d2_10) rfl ((if0 _ _).trans (tlt (f2 : (lcmpW jm1 (536870923 : Int64)) < (0 : Int32))).2.1) ?_
    refine XS.lloadN X0.here hx rfl (hb hby d2_13) rfl ?_
    refine XS.lload X0.here hx rfl (hb hby d2_14) rfl ?_
    show Steps p.tables e below (s₁.setTop (mkF m 16 #[.val (.long jm1), .second, .val (.long jr1), .second, .val (.long jr3), .second, .val (.long 536870923), .second] [(.long jr3), (.long jr1)])) _
    refine XS.lmul X0.here hx rfl (hb hby d2_16) rfl ?_
    refine XS.lloadN X0.here hx rfl (hb hby d2_17) rfl ?_
    show Steps p.tables e below (s₁.setTop (mkF m 18 #[.val (.long jm1), .second, .val (.long jr1), .second, .val (.long jr3), .second, .val (.long 536870923), .second] [(.long jm1), (.long (jr1 * jr3))])) _
    refine XS.lsub X0.here hx rfl (hb hby d2_18) rfl ?_
    refine XS.lload X0.here hx rfl (hb hby d2_19) rfl ?_
    show Steps p.tables e below (s₁.setTop (mkF m 21 #[.val (.long jm1), .second, .val (.long jr1), .second, .val (.long jr3), .second, .val (.long 536870923), .second] [(.long 536870923), (.long ((jr1 * jr3) - jm1))])) _
    refine own_lremM X0 hx rfl (hb hby d2_21) rfl (by decide) ?_
    refine XS.lconst X0.here hx rfl (hb hby d2_22) ?_
    show Steps p.tables e below (s₁.setTop (mkF m 23 #[.val (.long jm1), .second, .val (.long jr1), .second, .val (.long jr3), .second, .val (.long 536870923), .second] [(.long 0), (.long (((jr1 * jr3) - jm1) % (536870923 : Int64)))])) _
    refine XS.lcmp X0.here hx rfl (hb hby d2_23) rfl ?_
    refine XS.ifNo X0.here hx rfl (hb hby d2_24) rfl ((if0 _ _).trans (teq (f3 : (lcmpW (((jr1 * jr3) - jm1) % (536870923 : Int64)) (0 : Int64)) = (0 : Int32))).2) ?_
    refine XS.iconst X0.here hx rfl (hb hby d2_27) ?_
    refine XS.goto X0.here hx rfl (pc0 := 28) (pc' := 32) rfl (hb hby d2_28) (by decide) (by decide) ?_
    show Steps p.tables e below (s₁.setTop (mkF m 32 #[.val (.long jm1), .second, .val (.long jr1), .second, .val (.long jr3), .second, .val (.long 536870923), .second] [(.int 1)])) _
    exact retN X0 hx (t := .boolean) Bd.returns (by simp) (hb hby d2_32) hr
  · show QP (some (.int 1)) h0 n0 _ s₁.heap _
    rw [e0]
    exact ⟨rfl, N0, rfl⟩
set_option maxRecDepth 65536 in
set_option maxHeartbeats 40000000 in
theorem rm2_7 (l : Launch) (Z : State) (a0 : Array Value) (hw : ∀ d ∈ tables_1, d.before a0 Z = true) (ws : List Jvm.Cond) (jm2 : Int64) (jr2 : Int64) (jr3 : Int64) (h0 : Heap) (n0 : Nat) (Z0 : n0 ≤ h0.size) (f1 : ¬ ((lcmpW jm2 (0 : Int64)) < (0 : Int32))) (f2 : (lcmpW jm2 (536870923 : Int64)) < (0 : Int32)) (f3 : (lcmpW (((jr2 * jr3) - jm2) % (536870923 : Int64)) (0 : Int64)) = (0 : Int32)) :
    MetFree l M_1 (head1 (Jvm.Cond.code M_1 method_3_code 8 (some .boolean) :: ws) R_0_0_0_0) (fun a U => a = #[(.long jm2), (.long jr2), (.long jr3), (.long 536870923)] ∧ Z.Warmed39 U.vm ∧ U.heap = h0) (fun _ _ _ _ _ => True) (fun _ U o U' => ∃ v L, o = .returned v ∧ QP (some (.int 1)) h0 n0 v U'.heap L ∧ FrameEnd U o U' L R_0_0_0_0.cells R_0_0_0_0.slots) := by
  refine MetFree.of_bodySF (plainFor_of_name pn_com_example_subsumption_subsumption_SquareSystemMultiplyPinLaw) hisR ?_
  intro p e s m args below meth c s₁ Bd hml0 hP hK
  obtain ⟨rfl, hZ, hh⟩ := hP
  have hx := Bd.exec
  have hby := Bd.bytes
  have hml : c.maxLocals = 8 := hml0
  have hown : s.vm.findClass "com/example/subsumption/subsumption/SquareSystemMultiplyPinLaw" = some m.cls := findClass_of_methodNamed Bd.named
  have hnm := (name_of_methodNamed Bd.named Bd.method).1
  have X0 : Stand p l e R_0_0_0_0 s m #[(.long jm2), (.long jr2), (.long jr3), (.long 536870923)] below meth c s₁ [] 0 0 := Stand.of_body Bd
  have e0 : s₁.heap = h0 := by rw [← hh, Bd.state]; rfl
  have N0 := Fr.nil n0
  obtain ⟨fs, hr, hrun, hended, hW, hsame⟩ := X0.leave (v := (some (.int 1))) (fun h => by rw [Bd.returns] at h; cases h)
  refine ⟨_, _, castTop (ef2_JJJJ m jm2 jr2 jr3 (536870923 : Int64)) ?_, hrun, hended, _, _, rfl, ?_, ⟨_, rfl⟩, hW, hsame.mono (by decide) (by decide)⟩
  · show Steps p.tables e below (s₁.setTop (mkF m 0 #[.val (.long jm2), .second, .val (.long jr2), .second, .val (.long jr3), .second, .val (.long 536870923), .second] [])) _
    refine XS.lloadN X0.here hx rfl (hb hby d2_0) rfl ?_
    refine XS.lconst X0.here hx rfl (hb hby d2_1) ?_
    show Steps p.tables e below (s₁.setTop (mkF m 2 #[.val (.long jm2), .second, .val (.long jr2), .second, .val (.long jr3), .second, .val (.long 536870923), .second] [(.long 0), (.long jm2)])) _
    refine XS.lcmp X0.here hx rfl (hb hby d2_2) rfl ?_
    refine XS.ifNo X0.here hx rfl (hb hby d2_3) rfl ((if0 _ _).trans (flt (f1 : ¬ ((lcmpW jm2 (0 : Int64)) < (0 : Int32)))).1) ?_
    refine XS.lloadN X0.here hx rfl (hb hby d2_6) rfl ?_
    refine XS.lload X0.here hx rfl (hb hby d2_7) rfl ?_
    show Steps p.tables e below (s₁.setTop (mkF m 9 #[.val (.long jm2), .second, .val (.long jr2), .second, .val (.long jr3), .second, .val (.long 536870923), .second] [(.long 536870923), (.long jm2)])) _
    refine XS.lcmp X0.here hx rfl (hb hby d2_9) rfl ?_
    refine XS.ifNo X0.here hx rfl (hb hby d2_10) rfl ((if0 _ _).trans (tlt (f2 : (lcmpW jm2 (536870923 : Int64)) < (0 : Int32))).2.1) ?_
    refine XS.lloadN X0.here hx rfl (hb hby d2_13) rfl ?_
    refine XS.lload X0.here hx rfl (hb hby d2_14) rfl ?_
    show Steps p.tables e below (s₁.setTop (mkF m 16 #[.val (.long jm2), .second, .val (.long jr2), .second, .val (.long jr3), .second, .val (.long 536870923), .second] [(.long jr3), (.long jr2)])) _
    refine XS.lmul X0.here hx rfl (hb hby d2_16) rfl ?_
    refine XS.lloadN X0.here hx rfl (hb hby d2_17) rfl ?_
    show Steps p.tables e below (s₁.setTop (mkF m 18 #[.val (.long jm2), .second, .val (.long jr2), .second, .val (.long jr3), .second, .val (.long 536870923), .second] [(.long jm2), (.long (jr2 * jr3))])) _
    refine XS.lsub X0.here hx rfl (hb hby d2_18) rfl ?_
    refine XS.lload X0.here hx rfl (hb hby d2_19) rfl ?_
    show Steps p.tables e below (s₁.setTop (mkF m 21 #[.val (.long jm2), .second, .val (.long jr2), .second, .val (.long jr3), .second, .val (.long 536870923), .second] [(.long 536870923), (.long ((jr2 * jr3) - jm2))])) _
    refine own_lremM X0 hx rfl (hb hby d2_21) rfl (by decide) ?_
    refine XS.lconst X0.here hx rfl (hb hby d2_22) ?_
    show Steps p.tables e below (s₁.setTop (mkF m 23 #[.val (.long jm2), .second, .val (.long jr2), .second, .val (.long jr3), .second, .val (.long 536870923), .second] [(.long 0), (.long (((jr2 * jr3) - jm2) % (536870923 : Int64)))])) _
    refine XS.lcmp X0.here hx rfl (hb hby d2_23) rfl ?_
    refine XS.ifNo X0.here hx rfl (hb hby d2_24) rfl ((if0 _ _).trans (teq (f3 : (lcmpW (((jr2 * jr3) - jm2) % (536870923 : Int64)) (0 : Int64)) = (0 : Int32))).2) ?_
    refine XS.iconst X0.here hx rfl (hb hby d2_27) ?_
    refine XS.goto X0.here hx rfl (pc0 := 28) (pc' := 32) rfl (hb hby d2_28) (by decide) (by decide) ?_
    show Steps p.tables e below (s₁.setTop (mkF m 32 #[.val (.long jm2), .second, .val (.long jr2), .second, .val (.long jr3), .second, .val (.long 536870923), .second] [(.int 1)])) _
    exact retN X0 hx (t := .boolean) Bd.returns (by simp) (hb hby d2_32) hr
  · show QP (some (.int 1)) h0 n0 _ s₁.heap _
    rw [e0]
    exact ⟨rfl, N0, rfl⟩
theorem ef0_JJJJ (m : MethodId) (x0 : Int64) (x1 : Int64) (x2 : Int64) (x3 : Int64) : entryFrame m #[(.long x0), (.long x1), (.long x2), (.long x3)] maxLocals = mkF m 0 #[.val (.long x0), .second, .val (.long x1), .second, .val (.long x2), .second, .val (.long x3), .second, .unset, .unset, .unset, .unset, .unset, .unset, .unset, .unset, .unset, .unset, .unset] [] := by first | (simp [entryFrame, mkF, argsToLocals, Value.category, maxLocals]; done) | rfl
set_option maxRecDepth 65536 in
set_option maxHeartbeats 40000000 in
theorem rm0_8 (l : Launch) (Z : State) (a0 : Array Value) (hw : ∀ d ∈ tables_1, d.before a0 Z = true) (ws : List Jvm.Cond) (p0 : Int64) (p1 : Int64) (p2 : Int64) (p3 : Int64) (jr0 : Int64) (jr1 : Int64) (jr2 : Int64) (jr3 : Int64) (jm0 : Int64) (jm1 : Int64) (jm2 : Int64) (h0 : Heap) (n0 : Nat) (Z0 : n0 ≤ h0.size) (f1 : S_0 Z h0 (.long 536870923)) (f2 : ((p0 &&& (9223372036854775807 : Int64)) % (536870923 : Int64)) = jr0) (f3 : ((p1 &&& (9223372036854775807 : Int64)) % (536870923 : Int64)) = jr1) (f4 : ((p2 &&& (9223372036854775807 : Int64)) % (536870923 : Int64)) = jr2) (f5 : ((p3 &&& (9223372036854775807 : Int64)) % (536870923 : Int64)) = jr3) (f6 : ((jr0 * jr3) % (536870923 : Int64)) = jm0) (f7 : ((jr1 * jr3) % (536870923 : Int64)) = jm1) (f8 : ((jr2 * jr3) % (536870923 : Int64)) = jm2) (f9 : ¬ ((lcmpW jm0 (0 : Int64)) < (0 : Int32))) (f10 : (lcmpW jm0 (536870923 : Int64)) < (0 : Int32)) (f11 : (lcmpW (((jr0 * jr3) - jm0) % (536870923 : Int64)) (0 : Int64)) = (0 : Int32)) (f12 : ¬ ((lcmpW jm1 (0 : Int64)) < (0 : Int32))) (f13 : (lcmpW jm1 (536870923 : Int64)) < (0 : Int32)) (f14 : (lcmpW (((jr1 * jr3) - jm1) % (536870923 : Int64)) (0 : Int64)) = (0 : Int32)) (f15 : ¬ ((lcmpW jm2 (0 : Int64)) < (0 : Int32))) (f16 : (lcmpW jm2 (536870923 : Int64)) < (0 : Int32)) (f17 : (lcmpW (((jr2 * jr3) - jm2) % (536870923 : Int64)) (0 : Int64)) = (0 : Int32)) :
    MetFree l x (head1 (Jvm.Cond.code x code maxLocals ret :: ws) room_1) (fun a U => a = #[(.long p0), (.long p1), (.long p2), (.long p3)] ∧ Z.Warmed39 U.vm ∧ U.heap = h0) (fun _ _ _ _ _ => True) (fun _ U o U' => ∃ v L, o = .returned v ∧ QT n0 v U'.heap L ∧ FrameEnd U o U' L room_1.cells room_1.slots) := by
  refine MetFree.of_bodySF (plainFor_of_name pn_com_example_subsumption_subsumption_SquareSystemMultiplyPinLaw) hisR ?_
  intro p e s m args below meth c s₁ Bd hml0 hP hK
  obtain ⟨rfl, hZ, hh⟩ := hP
  have hx := Bd.exec
  have hby := Bd.bytes
  have hml : c.maxLocals = 19 := hml0
  have hown : s.vm.findClass "com/example/subsumption/subsumption/SquareSystemMultiplyPinLaw" = some m.cls := findClass_of_methodNamed Bd.named
  have hnm := (name_of_methodNamed Bd.named Bd.method).1
  have X0 : Stand p l e room_1 s m #[(.long p0), (.long p1), (.long p2), (.long p3)] below meth c s₁ [] 0 0 := Stand.of_body Bd
  have e0 : s₁.heap = h0 := by rw [← hh, Bd.state]; rfl
  have N0 := Fr.nil n0
  obtain ⟨T1, X1, e1, st1⟩ := getS2 X0 hx hZ hown (host := "") (Or.inl (tw_0 hw)) Via.refl e0 f1 (g := (mkF m 0 #[.val (.long p0), .second, .val (.long p1), .second, .val (.long p2), .second, .val (.long p3), .second, .unset, .unset, .unset, .unset, .unset, .unset, .unset, .unset, .unset, .unset, .unset] [])) rfl (hb hby at_0)
  obtain ⟨T2, h2, k2, X2, e2, E2, A2, st2⟩ := newP X1 hx hZ (aty := .long) (tw_4 hw) e1 (g := (mkF m 48 #[.val (.long p0), .second, .val (.long p1), .second, .val (.long p2), .second, .val (.long p3), .second, .val (.long 536870923), .second, .val (.long jr0), .second, .val (.long jr1), .second, .val (.long jr2), .second, .val (.long jr3), .second, .unset] [(.int 3)])) rfl (hb hby at_48) rfl (by decide : ¬ ((3 : Int32) < (0 : Int32))) (cap := 3) (by decide : (3 : Int32).toNatClampNeg ≤ 3) (by decide) (by decide) (by decide)
  obtain ⟨b1, g2⟩ : ∃ z, z = h0.size := ⟨_, rfl⟩
  rw [← g2] at A2 st2
  obtain ⟨kc2, gk2⟩ : ∃ z, z = k2 := ⟨_, rfl⟩
  rw [← gk2] at A2
  have sz_b1 : h0.size ≤ b1 := Nat.le_trans (Nat.le_refl _) (Nat.le_of_eq g2.symm)
  have g_b1 : n0 ≤ b1 := Nat.le_trans Z0 sz_b1
  have KK2 : Keep h0 h2 [] := (Keep.refl h0 []).ext E2
  have V2 : Arv Z h2 b1 kc2 .long (3 : Int32) [(.long 0), (.long 0), (.long 0)] (.long 0) := (Arv.new A2 (by decide)).pad (pad_rep [] (.long 0) 3)
  have va3 := V2
  obtain ⟨cl3, Ar3, q3, S3, N3_, H3, G3⟩ := va3
  have hin3 : ¬ ((0 : Int32) < 0 ∨ cl3.slots.size ≤ ((0 : Int32)).toNatClampNeg) := inb_of S3 ⟨by decide, by decide⟩
  obtain ⟨T4, h4, X4, e4, W4, st4⟩ := stJ X2 hx hZ e2 Ar3 (j := (0 : Int32)) hin3 (g := (mkF m 54 #[.val (.long p0), .second, .val (.long p1), .second, .val (.long p2), .second, .val (.long p3), .second, .val (.long 536870923), .second, .val (.long jr0), .second, .val (.long jr1), .second, .val (.long jr2), .second, .val (.long jr3), .second, .unset] [(.long jr0), (.int 0), (.ref b1), (.ref b1)])) rfl rfl (hb hby at_54)
  have Vw4 : Arv Z h4 b1 kc2 .long (3 : Int32) [(.long jr0), (.long 0), (.long 0)] (.long 0) := Arv.set Ar3 q3 S3 N3_ H3 G3 rfl W4 0 rfl (Nat.le_of_ble_eq_true rfl)
  have KK4 : Keep h0 h4 [] := KK2.wr W4 (Or.inr sz_b1)
  have N4 := Fr.snoc X4 N0 g_b1
  have va5 := Vw4
  obtain ⟨cl5, Ar5, q5, S5, N5_, H5, G5⟩ := va5
  have hin5 : ¬ ((1 : Int32) < 0 ∨ cl5.slots.size ≤ ((1 : Int32)).toNatClampNeg) := inb_of S5 ⟨by decide, by decide⟩
  obtain ⟨T6, h6, X6, e6, W6, st6⟩ := stJ X4 hx hZ e4 Ar5 (j := (1 : Int32)) hin5 (g := (mkF m 59 #[.val (.long p0), .second, .val (.long p1), .second, .val (.long p2), .second, .val (.long p3), .second, .val (.long 536870923), .second, .val (.long jr0), .second, .val (.long jr1), .second, .val (.long jr2), .second, .val (.long jr3), .second, .unset] [(.long jr1), (.int 1), (.ref b1), (.ref b1)])) rfl rfl (hb hby at_59)
  have Vw6 : Arv Z h6 b1 kc2 .long (3 : Int32) [(.long jr0), (.long jr1), (.long 0)] (.long 0) := Arv.set Ar5 q5 S5 N5_ H5 G5 rfl W6 1 rfl (Nat.le_of_ble_eq_true rfl)
  have KK6 : Keep h0 h6 [] := KK4.wr W6 (Or.inr sz_b1)
  have N6 := Fr.snoc X6 N4 g_b1
  have va7 := Vw6
  obtain ⟨cl7, Ar7, q7, S7, N7_, H7, G7⟩ := va7
  have hin7 : ¬ ((2 : Int32) < 0 ∨ cl7.slots.size ≤ ((2 : Int32)).toNatClampNeg) := inb_of S7 ⟨by decide, by decide⟩
  obtain ⟨T8, h8, X8, e8, W8, st8⟩ := stJ X6 hx hZ e6 Ar7 (j := (2 : Int32)) hin7 (g := (mkF m 64 #[.val (.long p0), .second, .val (.long p1), .second, .val (.long p2), .second, .val (.long p3), .second, .val (.long 536870923), .second, .val (.long jr0), .second, .val (.long jr1), .second, .val (.long jr2), .second, .val (.long jr3), .second, .unset] [(.long jr2), (.int 2), (.ref b1), (.ref b1)])) rfl rfl (hb hby at_64)
  have Vw8 : Arv Z h8 b1 kc2 .long (3 : Int32) [(.long jr0), (.long jr1), (.long jr2)] (.long 0) := Arv.set Ar7 q7 S7 N7_ H7 G7 rfl W8 2 rfl (Nat.le_of_ble_eq_true rfl)
  have KK8 : Keep h0 h8 [] := KK6.wr W8 (Or.inr sz_b1)
  have N8 := Fr.snoc X8 N6 g_b1
  -- pc 71: com/example/subsumption/subsumption/SquareSystem.multiply
  have u9 : S_0 Z h2 (.long 536870923) := Sta.ext E2 f1
  have u10 : S_0 Z h4 (.long 536870923) := Sta.wr W4 u9
  have u11 : S_0 Z h6 (.long 536870923) := Sta.wr W6 u10
  have u12 : S_0 Z h8 (.long 536870923) := Sta.wr W8 u11
  obtain ⟨_, _, ⟨T13, L13, k13, n13⟩, -, X13, ⟨Lc13, hQ13, l13, y13, z13⟩, st13⟩ := Jvm.LawKit.callS X8 hx (y := M_0) hown (mvT hZ (tw_5 hw)) (mvT hZ (tw_6 hw)) (mvT hZ (tw_1 hw)) (mvT hZ (tw_7 hw)) (by decide) (backOf (W := 0) (rm1_3 l Z a0 hw [] b1 jr3 kc2 jr0 jr1 jr2 jm0 jm1 jm2 h8 n0 (Nat.le_trans Z0 KK8.1) Vw8 u12 f6 g_b1 f7 f8) hZ (tw_7 hw) (tw_1 hw) (by decide) (by decide)) (g := (mkF m 71 #[.val (.long p0), .second, .val (.long p1), .second, .val (.long p2), .second, .val (.long p3), .second, .val (.long 536870923), .second, .val (.long jr0), .second, .val (.long jr1), .second, .val (.long jr2), .second, .val (.long jr3), .second, .val (.ref b1)] [(.long jr3), (.ref b1)])) rfl (by rw [hml]; rfl) (argsL := [(.ref b1), (.long jr3)]) (rest := []) (lenOf pd_0 rfl) rfl (by show 2 * 0 + _ ≤ _; exact Nat.le_of_eq rfl) (hb hby at_71) (fun _ _ => ⟨rfl, e8, (by decide : 1 + 0 ≤ _), (by decide : 3 + 0 ≤ _)⟩)
  dsimp only [Pt.U, Pt.locs, Pt.cells, Pt.slots] at X13 l13 y13 z13 st13 hQ13
  subst l13 y13 z13
  obtain ⟨rfl, Nq13, K13, o13_0⟩ := hQ13
  have N13 := Fr.app N8 Nq13
  have KK13 : Keep h0 T13.heap [] := KK8.trans K13 (fun x hx => (List.mem_cons.mp hx).elim (fun q => q ▸ (Or.inr sz_b1)) (fun hx => nomatch hx))
  have va14 := o13_0
  obtain ⟨cl14, Ar14, -, S14, -, H14, -⟩ := va14
  have hin14 : ¬ ((0 : Int32) < 0 ∨ cl14.slots.size ≤ ((0 : Int32)).toNatClampNeg) := inb_of S14 ⟨by decide, by decide⟩
  have hat14 : cl14.slots[((0 : Int32)).toNatClampNeg]? = some (.long jm0) := H14 _ (Nat.lt_of_not_le fun y => hin14 (Or.inr y))
  -- pc 84: com/example/subsumption/subsumption/SquareSystemMultiplyPinLaw.isResidueOfProduct
  obtain ⟨_, _, ⟨T15, L15, k15, n15⟩, -, X15, ⟨Lc15, hQ15, l15, y15, z15⟩, st15⟩ := Jvm.LawKit.callS X13 hx (y := M_1) hown (mvT hZ (tw_9 hw)) (mvT hZ (tw_10 hw)) (mvT hZ (tw_11 hw)) (mvT hZ (tw_12 hw)) (by decide) (backOf (W := 0) (rm2_5 l Z a0 hw [] jm0 jr0 jr3 T13.heap n0 (Nat.le_trans Z0 KK13.1) f9 f10 f11) hZ (tw_12 hw) (tw_11 hw) (by decide) (by decide)) (g := (mkF m 84 #[.val (.long p0), .second, .val (.long p1), .second, .val (.long p2), .second, .val (.long p3), .second, .val (.long 536870923), .second, .val (.long jr0), .second, .val (.long jr1), .second, .val (.long jr2), .second, .val (.long jr3), .second, .val (.ref b1)] [(.long 536870923), (.long jr3), (.long jr0), (.long jm0)])) rfl (by rw [hml]; rfl) (argsL := [(.long jm0), (.long jr0), (.long jr3), (.long 536870923)]) (rest := []) (lenOf pd_1 rfl) rfl (by show 2 * 0 + _ ≤ _; exact Nat.le_of_eq rfl) (hb hby at_84) (fun _ _ => ⟨rfl, rfl, (by decide : 1 + 0 ≤ _), (by decide : 3 + 0 ≤ _)⟩)
  dsimp only [Pt.U, Pt.locs, Pt.cells, Pt.slots] at X15 l15 y15 z15 st15 hQ15
  subst l15 y15 z15
  obtain ⟨rfl, Nq15, e15⟩ := hQ15
  have N15 := Fr.app N13 Nq15
  have va16 := o13_0
  obtain ⟨cl16, Ar16, -, S16, -, H16, -⟩ := va16
  have hin16 : ¬ ((1 : Int32) < 0 ∨ cl16.slots.size ≤ ((1 : Int32)).toNatClampNeg) := inb_of S16 ⟨by decide, by decide⟩
  have hat16 : cl16.slots[((1 : Int32)).toNatClampNeg]? = some (.long jm1) := H16 _ (Nat.lt_of_not_le fun y => hin16 (Or.inr y))
  -- pc 100: com/example/subsumption/subsumption/SquareSystemMultiplyPinLaw.isResidueOfProduct
  obtain ⟨_, _, ⟨T17, L17, k17, n17⟩, -, X17, ⟨Lc17, hQ17, l17, y17, z17⟩, st17⟩ := Jvm.LawKit.callS X15 hx (y := M_1) hown (mvT hZ (tw_9 hw)) (mvT hZ (tw_10 hw)) (mvT hZ (tw_11 hw)) (mvT hZ (tw_12 hw)) (by decide) (backOf (W := 0) (rm2_6 l Z a0 hw [] jm1 jr1 jr3 T13.heap n0 (Nat.le_trans Z0 KK13.1) f12 f13 f14) hZ (tw_12 hw) (tw_11 hw) (by decide) (by decide)) (g := (mkF m 100 #[.val (.long p0), .second, .val (.long p1), .second, .val (.long p2), .second, .val (.long p3), .second, .val (.long 536870923), .second, .val (.long jr0), .second, .val (.long jr1), .second, .val (.long jr2), .second, .val (.long jr3), .second, .val (.ref b1)] [(.long 536870923), (.long jr3), (.long jr1), (.long jm1)])) rfl (by rw [hml]; rfl) (argsL := [(.long jm1), (.long jr1), (.long jr3), (.long 536870923)]) (rest := []) (lenOf pd_1 rfl) rfl (by show 2 * 0 + _ ≤ _; exact Nat.le_of_eq rfl) (hb hby at_100) (fun _ _ => ⟨rfl, e15, (by decide : 1 + 0 ≤ _), (by decide : 3 + 0 ≤ _)⟩)
  dsimp only [Pt.U, Pt.locs, Pt.cells, Pt.slots] at X17 l17 y17 z17 st17 hQ17
  subst l17 y17 z17
  obtain ⟨rfl, Nq17, e17⟩ := hQ17
  have N17 := Fr.app N15 Nq17
  have va18 := o13_0
  obtain ⟨cl18, Ar18, -, S18, -, H18, -⟩ := va18
  have hin18 : ¬ ((2 : Int32) < 0 ∨ cl18.slots.size ≤ ((2 : Int32)).toNatClampNeg) := inb_of S18 ⟨by decide, by decide⟩
  have hat18 : cl18.slots[((2 : Int32)).toNatClampNeg]? = some (.long jm2) := H18 _ (Nat.lt_of_not_le fun y => hin18 (Or.inr y))
  -- pc 116: com/example/subsumption/subsumption/SquareSystemMultiplyPinLaw.isResidueOfProduct
  obtain ⟨_, _, ⟨T19, L19, k19, n19⟩, -, X19, ⟨Lc19, hQ19, l19, y19, z19⟩, st19⟩ := Jvm.LawKit.callS X17 hx (y := M_1) hown (mvT hZ (tw_9 hw)) (mvT hZ (tw_10 hw)) (mvT hZ (tw_11 hw)) (mvT hZ (tw_12 hw)) (by decide) (backOf (W := 0) (rm2_7 l Z a0 hw [] jm2 jr2 jr3 T13.heap n0 (Nat.le_trans Z0 KK13.1) f15 f16 f17) hZ (tw_12 hw) (tw_11 hw) (by decide) (by decide)) (g := (mkF m 116 #[.val (.long p0), .second, .val (.long p1), .second, .val (.long p2), .second, .val (.long p3), .second, .val (.long 536870923), .second, .val (.long jr0), .second, .val (.long jr1), .second, .val (.long jr2), .second, .val (.long jr3), .second, .val (.ref b1)] [(.long 536870923), (.long jr3), (.long jr2), (.long jm2)])) rfl (by rw [hml]; rfl) (argsL := [(.long jm2), (.long jr2), (.long jr3), (.long 536870923)]) (rest := []) (lenOf pd_1 rfl) rfl (by show 2 * 0 + _ ≤ _; exact Nat.le_of_eq rfl) (hb hby at_116) (fun _ _ => ⟨rfl, e17, (by decide : 1 + 0 ≤ _), (by decide : 3 + 0 ≤ _)⟩)
  dsimp only [Pt.U, Pt.locs, Pt.cells, Pt.slots] at X19 l19 y19 z19 st19 hQ19
  subst l19 y19 z19
  obtain ⟨rfl, Nq19, e19⟩ := hQ19
  have N19 := Fr.app N17 Nq19
  obtain ⟨fs, hr, hrun, hended, hW, hsame⟩ := X19.leave (v := (some (.int 1))) (fun h => by rw [Bd.returns] at h; cases h)
  refine ⟨_, _, castTop (ef0_JJJJ m p0 p1 p2 p3) ?_, hrun, hended, _, _, rfl, ?_, ⟨_, rfl⟩, hW, hsame.mono (by decide) (by decide)⟩
  · show Steps p.tables e below (s₁.setTop (mkF m 0 #[.val (.long p0), .second, .val (.long p1), .second, .val (.long p2), .second, .val (.long p3), .second, .unset, .unset, .unset, .unset, .unset, .unset, .unset, .unset, .unset, .unset, .unset] [])) _
    refine st1 _ ?_
    refine XS.lstore X1.here hx rfl (hb hby at_3) rfl (l' := #[.val (.long p0), .second, .val (.long p1), .second, .val (.long p2), .second, .val (.long p3), .second, .val (.long 536870923), .second, .unset, .unset, .unset, .unset, .unset, .unset, .unset, .unset, .unset]) rfl ?_
    refine XS.lloadN X1.here hx rfl (hb hby at_5) rfl ?_
    show Steps p.tables e below (T1.setTop (mkF m 6 #[.val (.long p0), .second, .val (.long p1), .second, .val (.long p2), .second, .val (.long p3), .second, .val (.long 536870923), .second, .unset, .unset, .unset, .unset, .unset, .unset, .unset, .unset, .unset] [(.long p0)])) _
    refine X1.ldc2Long hx hown (mvT hZ (tw_3 hw)) (g := (mkF m 6 #[.val (.long p0), .second, .val (.long p1), .second, .val (.long p2), .second, .val (.long p3), .second, .val (.long 536870923), .second, .unset, .unset, .unset, .unset, .unset, .unset, .unset, .unset, .unset] [(.long p0)])) rfl (hb hby at_6) _ ?_
    show Steps p.tables e below (T1.setTop (mkF m 9 #[.val (.long p0), .second, .val (.long p1), .second, .val (.long p2), .second, .val (.long p3), .second, .val (.long 536870923), .second, .unset, .unset, .unset, .unset, .unset, .unset, .unset, .unset, .unset] [(.long 9223372036854775807), (.long p0)])) _
    refine XS.land X1.here hx rfl (hb hby at_9) rfl ?_
    refine XS.lload X1.here hx rfl (hb hby at_10) rfl ?_
    show Steps p.tables e below (T1.setTop (mkF m 12 #[.val (.long p0), .second, .val (.long p1), .second, .val (.long p2), .second, .val (.long p3), .second, .val (.long 536870923), .second, .unset, .unset, .unset, .unset, .unset, .unset, .unset, .unset, .unset] [(.long 536870923), (.long (p0 &&& (9223372036854775807 : Int64)))])) _
    refine own_lremM X1 hx rfl (hb hby at_12) rfl (by decide) ?_
    show Steps p.tables e below (T1.setTop (mkF m 13 #[.val (.long p0), .second, .val (.long p1), .second, .val (.long p2), .second, .val (.long p3), .second, .val (.long 536870923), .second, .unset, .unset, .unset, .unset, .unset, .unset, .unset, .unset, .unset] [(.long ((p0 &&& (9223372036854775807 : Int64)) % (536870923 : Int64)))])) _
    rw [f2]
    refine XS.lstore X1.here hx rfl (hb hby at_13) rfl (l' := #[.val (.long p0), .second, .val (.long p1), .second, .val (.long p2), .second, .val (.long p3), .second, .val (.long 536870923), .second, .val (.long jr0), .second, .unset, .unset, .unset, .unset, .unset, .unset, .unset]) rfl ?_
    refine XS.lloadN X1.here hx rfl (hb hby at_15) rfl ?_
    show Steps p.tables e below (T1.setTop (mkF m 16 #[.val (.long p0), .second, .val (.long p1), .second, .val (.long p2), .second, .val (.long p3), .second, .val (.long 536870923), .second, .val (.long jr0), .second, .unset, .unset, .unset, .unset, .unset, .unset, .unset] [(.long p1)])) _
    refine X1.ldc2Long hx hown (mvT hZ (tw_3 hw)) (g := (mkF m 16 #[.val (.long p0), .second, .val (.long p1), .second, .val (.long p2), .second, .val (.long p3), .second, .val (.long 536870923), .second, .val (.long jr0), .second, .unset, .unset, .unset, .unset, .unset, .unset, .unset] [(.long p1)])) rfl (hb hby at_16) _ ?_
    show Steps p.tables e below (T1.setTop (mkF m 19 #[.val (.long p0), .second, .val (.long p1), .second, .val (.long p2), .second, .val (.long p3), .second, .val (.long 536870923), .second, .val (.long jr0), .second, .unset, .unset, .unset, .unset, .unset, .unset, .unset] [(.long 9223372036854775807), (.long p1)])) _
    refine XS.land X1.here hx rfl (hb hby at_19) rfl ?_
    refine XS.lload X1.here hx rfl (hb hby at_20) rfl ?_
    show Steps p.tables e below (T1.setTop (mkF m 22 #[.val (.long p0), .second, .val (.long p1), .second, .val (.long p2), .second, .val (.long p3), .second, .val (.long 536870923), .second, .val (.long jr0), .second, .unset, .unset, .unset, .unset, .unset, .unset, .unset] [(.long 536870923), (.long (p1 &&& (9223372036854775807 : Int64)))])) _
    refine own_lremM X1 hx rfl (hb hby at_22) rfl (by decide) ?_
    show Steps p.tables e below (T1.setTop (mkF m 23 #[.val (.long p0), .second, .val (.long p1), .second, .val (.long p2), .second, .val (.long p3), .second, .val (.long 536870923), .second, .val (.long jr0), .second, .unset, .unset, .unset, .unset, .unset, .unset, .unset] [(.long ((p1 &&& (9223372036854775807 : Int64)) % (536870923 : Int64)))])) _
    rw [f3]
    refine XS.lstore X1.here hx rfl (hb hby at_23) rfl (l' := #[.val (.long p0), .second, .val (.long p1), .second, .val (.long p2), .second, .val (.long p3), .second, .val (.long 536870923), .second, .val (.long jr0), .second, .val (.long jr1), .second, .unset, .unset, .unset, .unset, .unset]) rfl ?_
    refine XS.lload X1.here hx rfl (hb hby at_25) rfl ?_
    show Steps p.tables e below (T1.setTop (mkF m 27 #[.val (.long p0), .second, .val (.long p1), .second, .val (.long p2), .second, .val (.long p3), .second, .val (.long 536870923), .second, .val (.long jr0), .second, .val (.long jr1), .second, .unset, .unset, .unset, .unset, .unset] [(.long p2)])) _
    refine X1.ldc2Long hx hown (mvT hZ (tw_3 hw)) (g := (mkF m 27 #[.val (.long p0), .second, .val (.long p1), .second, .val (.long p2), .second, .val (.long p3), .second, .val (.long 536870923), .second, .val (.long jr0), .second, .val (.long jr1), .second, .unset, .unset, .unset, .unset, .unset] [(.long p2)])) rfl (hb hby at_27) _ ?_
    show Steps p.tables e below (T1.setTop (mkF m 30 #[.val (.long p0), .second, .val (.long p1), .second, .val (.long p2), .second, .val (.long p3), .second, .val (.long 536870923), .second, .val (.long jr0), .second, .val (.long jr1), .second, .unset, .unset, .unset, .unset, .unset] [(.long 9223372036854775807), (.long p2)])) _
    refine XS.land X1.here hx rfl (hb hby at_30) rfl ?_
    refine XS.lload X1.here hx rfl (hb hby at_31) rfl ?_
    show Steps p.tables e below (T1.setTop (mkF m 33 #[.val (.long p0), .second, .val (.long p1), .second, .val (.long p2), .second, .val (.long p3), .second, .val (.long 536870923), .second, .val (.long jr0), .second, .val (.long jr1), .second, .unset, .unset, .unset, .unset, .unset] [(.long 536870923), (.long (p2 &&& (9223372036854775807 : Int64)))])) _
    refine own_lremM X1 hx rfl (hb hby at_33) rfl (by decide) ?_
    show Steps p.tables e below (T1.setTop (mkF m 34 #[.val (.long p0), .second, .val (.long p1), .second, .val (.long p2), .second, .val (.long p3), .second, .val (.long 536870923), .second, .val (.long jr0), .second, .val (.long jr1), .second, .unset, .unset, .unset, .unset, .unset] [(.long ((p2 &&& (9223372036854775807 : Int64)) % (536870923 : Int64)))])) _
    rw [f4]
    refine XS.lstore X1.here hx rfl (hb hby at_34) rfl (l' := #[.val (.long p0), .second, .val (.long p1), .second, .val (.long p2), .second, .val (.long p3), .second, .val (.long 536870923), .second, .val (.long jr0), .second, .val (.long jr1), .second, .val (.long jr2), .second, .unset, .unset, .unset]) rfl ?_
    refine XS.lload X1.here hx rfl (hb hby at_36) rfl ?_
    show Steps p.tables e below (T1.setTop (mkF m 38 #[.val (.long p0), .second, .val (.long p1), .second, .val (.long p2), .second, .val (.long p3), .second, .val (.long 536870923), .second, .val (.long jr0), .second, .val (.long jr1), .second, .val (.long jr2), .second, .unset, .unset, .unset] [(.long p3)])) _
    refine X1.ldc2Long hx hown (mvT hZ (tw_3 hw)) (g := (mkF m 38 #[.val (.long p0), .second, .val (.long p1), .second, .val (.long p2), .second, .val (.long p3), .second, .val (.long 536870923), .second, .val (.long jr0), .second, .val (.long jr1), .second, .val (.long jr2), .second, .unset, .unset, .unset] [(.long p3)])) rfl (hb hby at_38) _ ?_
    show Steps p.tables e below (T1.setTop (mkF m 41 #[.val (.long p0), .second, .val (.long p1), .second, .val (.long p2), .second, .val (.long p3), .second, .val (.long 536870923), .second, .val (.long jr0), .second, .val (.long jr1), .second, .val (.long jr2), .second, .unset, .unset, .unset] [(.long 9223372036854775807), (.long p3)])) _
    refine XS.land X1.here hx rfl (hb hby at_41) rfl ?_
    refine XS.lload X1.here hx rfl (hb hby at_42) rfl ?_
    show Steps p.tables e below (T1.setTop (mkF m 44 #[.val (.long p0), .second, .val (.long p1), .second, .val (.long p2), .second, .val (.long p3), .second, .val (.long 536870923), .second, .val (.long jr0), .second, .val (.long jr1), .second, .val (.long jr2), .second, .unset, .unset, .unset] [(.long 536870923), (.long (p3 &&& (9223372036854775807 : Int64)))])) _
    refine own_lremM X1 hx rfl (hb hby at_44) rfl (by decide) ?_
    show Steps p.tables e below (T1.setTop (mkF m 45 #[.val (.long p0), .second, .val (.long p1), .second, .val (.long p2), .second, .val (.long p3), .second, .val (.long 536870923), .second, .val (.long jr0), .second, .val (.long jr1), .second, .val (.long jr2), .second, .unset, .unset, .unset] [(.long ((p3 &&& (9223372036854775807 : Int64)) % (536870923 : Int64)))])) _
    rw [f5]
    refine XS.lstore X1.here hx rfl (hb hby at_45) rfl (l' := #[.val (.long p0), .second, .val (.long p1), .second, .val (.long p2), .second, .val (.long p3), .second, .val (.long 536870923), .second, .val (.long jr0), .second, .val (.long jr1), .second, .val (.long jr2), .second, .val (.long jr3), .second, .unset]) rfl ?_
    refine XS.iconst X1.here hx rfl (hb hby at_47) ?_
    show Steps p.tables e below (T1.setTop (mkF m 48 #[.val (.long p0), .second, .val (.long p1), .second, .val (.long p2), .second, .val (.long p3), .second, .val (.long 536870923), .second, .val (.long jr0), .second, .val (.long jr1), .second, .val (.long jr2), .second, .val (.long jr3), .second, .unset] [(.int 3)])) _
    refine st2 _ ?_
    refine XS.dup X2.here hx rfl (hb hby at_50) rfl rfl ?_
    refine XS.iconst X2.here hx rfl (hb hby at_51) ?_
    refine XS.lload X2.here hx rfl (hb hby at_52) rfl ?_
    show Steps p.tables e below (T2.setTop (mkF m 54 #[.val (.long p0), .second, .val (.long p1), .second, .val (.long p2), .second, .val (.long p3), .second, .val (.long 536870923), .second, .val (.long jr0), .second, .val (.long jr1), .second, .val (.long jr2), .second, .val (.long jr3), .second, .unset] [(.long jr0), (.int 0), (.ref b1), (.ref b1)])) _
    refine st4 _ ?_
    refine XS.dup X4.here hx rfl (hb hby at_55) rfl rfl ?_
    refine XS.iconst X4.here hx rfl (hb hby at_56) ?_
    refine XS.lload X4.here hx rfl (hb hby at_57) rfl ?_
    show Steps p.tables e below (T4.setTop (mkF m 59 #[.val (.long p0), .second, .val (.long p1), .second, .val (.long p2), .second, .val (.long p3), .second, .val (.long 536870923), .second, .val (.long jr0), .second, .val (.long jr1), .second, .val (.long jr2), .second, .val (.long jr3), .second, .unset] [(.long jr1), (.int 1), (.ref b1), (.ref b1)])) _
    refine st6 _ ?_
    refine XS.dup X6.here hx rfl (hb hby at_60) rfl rfl ?_
    refine XS.iconst X6.here hx rfl (hb hby at_61) ?_
    refine XS.lload X6.here hx rfl (hb hby at_62) rfl ?_
    show Steps p.tables e below (T6.setTop (mkF m 64 #[.val (.long p0), .second, .val (.long p1), .second, .val (.long p2), .second, .val (.long p3), .second, .val (.long 536870923), .second, .val (.long jr0), .second, .val (.long jr1), .second, .val (.long jr2), .second, .val (.long jr3), .second, .unset] [(.long jr2), (.int 2), (.ref b1), (.ref b1)])) _
    refine st8 _ ?_
    refine XS.astore X8.here hx rfl (hb hby at_65) rfl rfl (l' := #[.val (.long p0), .second, .val (.long p1), .second, .val (.long p2), .second, .val (.long p3), .second, .val (.long 536870923), .second, .val (.long jr0), .second, .val (.long jr1), .second, .val (.long jr2), .second, .val (.long jr3), .second, .val (.ref b1)]) rfl ?_
    refine XS.aload X8.here hx rfl (hb hby at_67) rfl rfl ?_
    refine XS.lload X8.here hx rfl (hb hby at_69) rfl ?_
    show Steps p.tables e below (T8.setTop (mkF m 71 #[.val (.long p0), .second, .val (.long p1), .second, .val (.long p2), .second, .val (.long p3), .second, .val (.long 536870923), .second, .val (.long jr0), .second, .val (.long jr1), .second, .val (.long jr2), .second, .val (.long jr3), .second, .val (.ref b1)] [(.long jr3), (.ref b1)])) _
    refine st13 _ ?_
    refine XS.aload X13.here hx rfl (hb hby at_74) rfl rfl ?_
    refine XS.iconst X13.here hx rfl (hb hby at_76) ?_
    show Steps p.tables e below (T13.setTop (mkF m 77 #[.val (.long p0), .second, .val (.long p1), .second, .val (.long p2), .second, .val (.long p3), .second, .val (.long 536870923), .second, .val (.long jr0), .second, .val (.long jr1), .second, .val (.long jr2), .second, .val (.long jr3), .second, .val (.ref b1)] [(.int 0), (.ref b1)])) _
    refine X13.laload hx (j := (0 : Int32)) (v := (.long jm0)) (by exact Ar14.1) (State.isArrayOf_alike hZ.alike Ar14.2.1) Ar14.2.2 hin14 hat14 (g := (mkF m 77 #[.val (.long p0), .second, .val (.long p1), .second, .val (.long p2), .second, .val (.long p3), .second, .val (.long 536870923), .second, .val (.long jr0), .second, .val (.long jr1), .second, .val (.long jr2), .second, .val (.long jr3), .second, .val (.ref b1)] [(.int 0), (.ref b1)])) rfl rfl (hb hby at_77) _ ?_
    refine XS.lload X13.here hx rfl (hb hby at_78) rfl ?_
    refine XS.lload X13.here hx rfl (hb hby at_80) rfl ?_
    refine XS.lload X13.here hx rfl (hb hby at_82) rfl ?_
    show Steps p.tables e below (T13.setTop (mkF m 84 #[.val (.long p0), .second, .val (.long p1), .second, .val (.long p2), .second, .val (.long p3), .second, .val (.long 536870923), .second, .val (.long jr0), .second, .val (.long jr1), .second, .val (.long jr2), .second, .val (.long jr3), .second, .val (.ref b1)] [(.long 536870923), (.long jr3), (.long jr0), (.long jm0)])) _
    refine st15 _ ?_
    refine XS.ifNo X15.here hx rfl (hb hby at_87) rfl (by decide) ?_
    refine XS.aload X15.here hx rfl (hb hby at_90) rfl rfl ?_
    refine XS.iconst X15.here hx rfl (hb hby at_92) ?_
    show Steps p.tables e below (T15.setTop (mkF m 93 #[.val (.long p0), .second, .val (.long p1), .second, .val (.long p2), .second, .val (.long p3), .second, .val (.long 536870923), .second, .val (.long jr0), .second, .val (.long jr1), .second, .val (.long jr2), .second, .val (.long jr3), .second, .val (.ref b1)] [(.int 1), (.ref b1)])) _
    refine X15.laload hx (j := (1 : Int32)) (v := (.long jm1)) (by rw [e15]; exact Ar16.1) (State.isArrayOf_alike hZ.alike Ar16.2.1) Ar16.2.2 hin16 hat16 (g := (mkF m 93 #[.val (.long p0), .second, .val (.long p1), .second, .val (.long p2), .second, .val (.long p3), .second, .val (.long 536870923), .second, .val (.long jr0), .second, .val (.long jr1), .second, .val (.long jr2), .second, .val (.long jr3), .second, .val (.ref b1)] [(.int 1), (.ref b1)])) rfl rfl (hb hby at_93) _ ?_
    refine XS.lload X15.here hx rfl (hb hby at_94) rfl ?_
    refine XS.lload X15.here hx rfl (hb hby at_96) rfl ?_
    refine XS.lload X15.here hx rfl (hb hby at_98) rfl ?_
    show Steps p.tables e below (T15.setTop (mkF m 100 #[.val (.long p0), .second, .val (.long p1), .second, .val (.long p2), .second, .val (.long p3), .second, .val (.long 536870923), .second, .val (.long jr0), .second, .val (.long jr1), .second, .val (.long jr2), .second, .val (.long jr3), .second, .val (.ref b1)] [(.long 536870923), (.long jr3), (.long jr1), (.long jm1)])) _
    refine st17 _ ?_
    refine XS.ifNo X17.here hx rfl (hb hby at_103) rfl (by decide) ?_
    refine XS.aload X17.here hx rfl (hb hby at_106) rfl rfl ?_
    refine XS.iconst X17.here hx rfl (hb hby at_108) ?_
    show Steps p.tables e below (T17.setTop (mkF m 109 #[.val (.long p0), .second, .val (.long p1), .second, .val (.long p2), .second, .val (.long p3), .second, .val (.long 536870923), .second, .val (.long jr0), .second, .val (.long jr1), .second, .val (.long jr2), .second, .val (.long jr3), .second, .val (.ref b1)] [(.int 2), (.ref b1)])) _
    refine X17.laload hx (j := (2 : Int32)) (v := (.long jm2)) (by rw [e17]; exact Ar18.1) (State.isArrayOf_alike hZ.alike Ar18.2.1) Ar18.2.2 hin18 hat18 (g := (mkF m 109 #[.val (.long p0), .second, .val (.long p1), .second, .val (.long p2), .second, .val (.long p3), .second, .val (.long 536870923), .second, .val (.long jr0), .second, .val (.long jr1), .second, .val (.long jr2), .second, .val (.long jr3), .second, .val (.ref b1)] [(.int 2), (.ref b1)])) rfl rfl (hb hby at_109) _ ?_
    refine XS.lload X17.here hx rfl (hb hby at_110) rfl ?_
    refine XS.lload X17.here hx rfl (hb hby at_112) rfl ?_
    refine XS.lload X17.here hx rfl (hb hby at_114) rfl ?_
    show Steps p.tables e below (T17.setTop (mkF m 116 #[.val (.long p0), .second, .val (.long p1), .second, .val (.long p2), .second, .val (.long p3), .second, .val (.long 536870923), .second, .val (.long jr0), .second, .val (.long jr1), .second, .val (.long jr2), .second, .val (.long jr3), .second, .val (.ref b1)] [(.long 536870923), (.long jr3), (.long jr2), (.long jm2)])) _
    refine st19 _ ?_
    refine XS.ifNo X19.here hx rfl (hb hby at_119) rfl (by decide) ?_
    refine XS.iconst X19.here hx rfl (hb hby at_122) ?_
    refine XS.goto X19.here hx rfl (pc0 := 123) (pc' := 127) rfl (hb hby at_123) (by decide) (by decide) ?_
    show Steps p.tables e below (T19.setTop (mkF m 127 #[.val (.long p0), .second, .val (.long p1), .second, .val (.long p2), .second, .val (.long p3), .second, .val (.long 536870923), .second, .val (.long jr0), .second, .val (.long jr1), .second, .val (.long jr2), .second, .val (.long jr3), .second, .val (.ref b1)] [(.int 1)])) _
    exact retN X19 hx (t := .boolean) Bd.returns (by simp) (hb hby at_127) hr
  · show QT n0 _ T19.heap _
    rw [e19]
    exact ⟨rfl, N19⟩
set_option maxRecDepth 65536 in
set_option maxHeartbeats 40000000 in
theorem comes_1 {Post : Tables → Env → Array Value → State → Outcome → State → Prop} (hpost : ∀ tb e args s v u, (limb_1_1.after args s (.returned v) u = true ∧ limb_1_2.after args s (.returned v) u = true ∧ True) → FrameEnd s (.returned v) u (Jvm.fieldLocs frame_1_writes args s ++ Jvm.arrayLocs frame_1_arrays args s ++ Jvm.staticLocs frame_1_statics s) 16 128 → Post tb e args s (.returned v) u) :
    ArmFor flags0 classFile x code maxLocals ret World_1 tables_1 room_1 Calls_1 rest_1 Pre_1 Post := by
  intro l hfl _ _ p e ha hc hk s m args below hf hA hF happ hP
  obtain ⟨hcalls, hrest, hpre⟩ := hP
  obtain ⟨-, -, -, hnamed, -, -, -, hat⟩ := (Spec.applies_iff hf).mp happ
  obtain ⟨hg, hn⟩ := and_e (Cond.before_iff.mp (show (Jvm.Cond.and given_1 narrow_1).before args s = true from hpre))
  obtain ⟨k9, k10⟩ := and_e hg
  obtain ⟨k11, k12⟩ := and_e k10
  obtain ⟨k13, k14⟩ := and_e k12
  obtain ⟨k15, k16⟩ := and_e k14
  obtain ⟨w0, w1, w2, w3, rfl⟩ : ∃ w0 w1 w2 w3 : Value, args = #[w0, w1, w2, w3] := by
    have hs : args.size = 4 := by simpa [Cond.value, given_1] using k9
    obtain ⟨L⟩ := args
    match L, hs with
    | [w0, w1, w2, w3], _ => exact ⟨w0, w1, w2, w3, rfl⟩
  have hw := fun d (hd : d ∈ tables_1) => atoms_spec (ws := Jvm.Cond.code x code maxLocals ret :: tables_1) hat d (List.mem_cons_of_mem _ hd)
  have hfit : Fit s := fun {y c} hc i hi => by
    obtain ⟨ha, rfl⟩ := Array.getElem?_eq_some_iff.mp hc
    have q := List.all_eq_true.mp ((Array.all_eq_true_iff_forall_mem.mp hF) _ (Array.getElem_mem ha)) i (List.mem_range.mpr hi)
    simpa [Array.getElem?_eq_getElem hi] using q
  obtain ⟨p0, ei0⟩ := isL_v k11
  obtain rfl : w0 = (.long p0) := Option.some.inj ei0
  obtain ⟨p1, ei1⟩ := isL_v k13
  obtain rfl : w1 = (.long p1) := Option.some.inj ei1
  obtain ⟨p2, ei2⟩ := isL_v k15
  obtain rfl : w2 = (.long p2) := Option.some.inj ei2
  obtain ⟨p3, ei3⟩ := isL_v k16
  obtain rfl : w3 = (.long p3) := Option.some.inj ei3
  have S_PRIME : Sta s s.heap "com/example/subsumption/subsumption/SquareSystem" "PRIME" "J" (.long (536870923 : Int64)) := Sta.start (own_stl hn) (Or.inr ⟨(tw_1 hw), (tw_2 hw)⟩)
  have M : MetFree l x (head1 (Jvm.Cond.code x code maxLocals ret :: tables_1) room_1) (fun a U => a = #[(.long p0), (.long p1), (.long p2), (.long p3)] ∧ s.Warmed39 U.vm ∧ U.heap = s.heap) (fun _ _ _ _ _ => True) (fun _ U o U' => ∃ v L, o = .returned v ∧ QT s.heap.size v U'.heap L ∧ FrameEnd U o U' L room_1.cells room_1.slots) := by
    obtain ⟨jr0, hjr0⟩ : ∃ r, ((p0 &&& (9223372036854775807 : Int64)) % (536870923 : Int64)) = r := ⟨_, rfl⟩
    have ir0 := own_res p0
    rw [hjr0] at ir0
    obtain ⟨jr1, hjr1⟩ : ∃ r, ((p1 &&& (9223372036854775807 : Int64)) % (536870923 : Int64)) = r := ⟨_, rfl⟩
    have ir1 := own_res p1
    rw [hjr1] at ir1
    obtain ⟨jr2, hjr2⟩ : ∃ r, ((p2 &&& (9223372036854775807 : Int64)) % (536870923 : Int64)) = r := ⟨_, rfl⟩
    have ir2 := own_res p2
    rw [hjr2] at ir2
    obtain ⟨jr3, hjr3⟩ : ∃ r, ((p3 &&& (9223372036854775807 : Int64)) % (536870923 : Int64)) = r := ⟨_, rfl⟩
    have ir3 := own_res p3
    rw [hjr3] at ir3
    obtain ⟨jm0, hjm0⟩ : ∃ r, ((jr0 * jr3) % (536870923 : Int64)) = r := ⟨_, rfl⟩
    obtain ⟨jm1, hjm1⟩ : ∃ r, ((jr1 * jr3) % (536870923 : Int64)) = r := ⟨_, rfl⟩
    obtain ⟨jm2, hjm2⟩ : ∃ r, ((jr2 * jr3) % (536870923 : Int64)) = r := ⟨_, rfl⟩
    have hx0 := own_residue jr0 jr3 ir0 ir3
    rw [hjm0] at hx0
    have hx1 := own_residue jr1 jr3 ir1 ir3
    rw [hjm1] at hx1
    have hx2 := own_residue jr2 jr3 ir2 ir3
    rw [hjm2] at hx2
    · exact rm0_8 l s _ hw tables_1 p0 p1 p2 p3 jr0 jr1 jr2 jr3 jm0 jm1 jm2 s.heap s.heap.size (Nat.le_refl _) S_PRIME hjr0 hjr1 hjr2 hjr3 hjm0 hjm1 hjm2 hx0.1 hx0.2.1 hx0.2.2 hx1.1 hx1.2.1 hx1.2.2 hx2.1 hx2.2.1 hx2.2.2
  obtain ⟨n, o, h1, h2, h3, _, L, rfl, ⟨rfl, N⟩, hq⟩ := M p e ha hc hk s m _ below hf ((Spec.applies_iff_loose hf).mp happ).1 ⟨rfl, State.Warmed39.refl s, rfl⟩ trivial
  refine ⟨n, _, h1, h2, h3, hpost _ _ _ _ _ _ ⟨Cond.after_iff.mpr rfl, Cond.after_iff.mpr (eq_i res_at (Term.int_eval (1)) rfl), trivial⟩ ⟨hq.1, hq.2.1, (hq.2.2.sift fun y hy => Or.inr (N y hy)).mono (by decide) (by decide)⟩⟩
theorem main_1_1 : Claimed_1_1 := comes_1 fun _ _ _ _ _ _ h hF => ⟨h.1, hF⟩
theorem main_1_2 : Claimed_1_2 := comes_1 fun _ _ _ _ _ _ h hF => ⟨h.2.1, hF⟩
end Jvm.Pilot.@@N@@
namespace Jvm.Pilot.@@N@@
open Jvm Jvm.ClassFile Sem Op Lib Jvm.Free Jvm.Stand Jvm.Pilot.@@N@@.Jvm.D
/-! MADE BY PROGRAM (witnessworld.py) out of the Statement's table words and the real class files: 11 classes; the members and pool entries that the words name. The judged class is class 1, her method 1. -/
namespace start1
open Jvm.ClassFile
def u (s : String) : CpInfo := .utf8 (stringToUtf16 s)
/-- a pool by its gaps: so many unusable entries, then the entry; so many at the end -/
def gap : Nat → List CpInfo → List CpInfo
  | 0, r => r
  | n + 1, r => .unusable :: gap n r
def poolList (es : List (Nat × CpInfo)) (last : Nat) : List CpInfo := es.foldr (fun e r => gap e.1 (e.2 :: r)) (gap last [])
def pool (es : List (Nat × CpInfo)) (last : Nat) : Array CpInfo := ⟨poolList es last⟩
def fileOf (pool : Array CpInfo) (this : Nat) (attrs : Array Attribute := #[]) (ms : Array MethodInfo := #[]) (fl : Nat := 33) (sup : Nat := 0) (ifs : Array Nat := #[]) (fds : Array FieldInfo := #[]) : ClassFile where
  minorVersion := 0
  majorVersion := 65
  constantPool := pool
  accessFlags := fl
  thisClass := this
  superClass := sup
  interfaces := ifs
  fields := fds
  methods := ms
  attributes := attrs
def plain (name : String) (sup : Option ClassId) : Class where
  name := name
  kind := .ordinary
  loader := none
  accessFlags := 33
  super := sup
  interfaces := #[]
  cf := none
  fields := #[]
  methods := #[]
  instanceTypes := #[]
  staticTypes := #[]
  resolved := #[]
  callSites := []
  init := .initialized
  statics := none
  mirror := none

def pool0 : Array CpInfo := pool [(5, u "<init>"), (0, u "()V"), (1, .class_ 10), (1, u "java/lang/Object")] 113

def k0m0 : Method := { name := "<init>", desc := "()V", sig := { parameters := [], returnType := none }, accessFlags := 1, code := none }
/-- java/lang/Object -/
def k0 : Class := { plain "java/lang/Object" none with
  accessFlags := 33
  interfaces := #[]
  cf := some (fileOf pool0 8 #[] #[{ accessFlags := 1, nameIndex := 5, descriptorIndex := 6, attributes := #[] }] 33 0 #[] #[])
  fields := #[]
  methods := #[k0m0]
  instanceTypes := #[]
  staticTypes := #[]
  resolved := Array.replicate 124 none
  statics := none }

def pool1 : Array CpInfo := pool [(2, .class_ 4), (1, u "java/lang/Object"), (0, u "<init>"), (0, u "()V"), (0, .fieldref 8 9), (0, .class_ 10), (0, .nameAndType 11 12), (0, u "com/example/subsumption/subsumption/SquareSystem"), (0, u "PRIME"), (0, u "J"), (2, .long 9223372036854775807), (1, .methodref 8 18), (0, .nameAndType 19 20), (0, u "multiply"), (0, u "([JJ)V"), (0, .methodref 22 23), (0, .class_ 24), (0, .nameAndType 25 26), (0, u "com/example/subsumption/subsumption/SquareSystemMultiplyPinLaw"), (0, u "isResidueOfProduct"), (0, u "(JJJJ)Z"), (2, u "law")] 5

def k1m0 : Method := { name := "<init>", desc := "()V", sig := { parameters := [], returnType := none }, accessFlags := 1, code := none }
def k1c1 : Code := { maxStack := 8, maxLocals := 19, code := code, exceptionTable := #[], attributes := #[] }
def k1m1 : Method := { name := "law", desc := "(JJJJ)Z", sig := { parameters := [.long, .long, .long, .long], returnType := some .boolean }, accessFlags := 9, code := some k1c1 }
def k1c2 : Code := { maxStack := 4, maxLocals := 8, code := method_3_code, exceptionTable := #[], attributes := #[] }
def k1m2 : Method := { name := "isResidueOfProduct", desc := "(JJJJ)Z", sig := { parameters := [.long, .long, .long, .long], returnType := some .boolean }, accessFlags := 10, code := some k1c2 }
/-- com/example/subsumption/subsumption/SquareSystemMultiplyPinLaw -/
def k1 : Class := { plain "com/example/subsumption/subsumption/SquareSystemMultiplyPinLaw" (some 0) with
  accessFlags := 49
  interfaces := #[]
  cf := some (fileOf pool1 22 #[] #[{ accessFlags := 1, nameIndex := 5, descriptorIndex := 6, attributes := #[] }, { accessFlags := 9, nameIndex := 29, descriptorIndex := 26, attributes := #[] }, { accessFlags := 10, nameIndex := 25, descriptorIndex := 26, attributes := #[] }] 49 2 #[] #[])
  fields := #[]
  methods := #[k1m0, k1m1, k1m2]
  instanceTypes := #[]
  staticTypes := #[]
  resolved := Array.replicate 35 none
  statics := none }

def pool2 : Array CpInfo := pool [(2, .class_ 4), (1, u "java/lang/Object"), (3, .class_ 10), (1, u "com/example/subsumption/subsumption/SquareSystem"), (0, u "square"), (0, u "[[Ljava/math/BigInteger;"), (2, u "inverse"), (0, u "[[J"), (49, .class_ 67), (0, u "com/example/subsumption/subsumption/SquareSystem$Lifting"), (61, u "Ljava/math/BigInteger;"), (15, .class_ 146), (0, u "com/example/subsumption/subsumption/SquareSystem$Fractions"), (24, u "BIG_PRIME"), (2, u "multiply"), (102, u "([JJ)V"), (17, .fieldref 8 296), (0, .nameAndType 297 298), (0, u "PRIME"), (0, u "J"), (68, u "BITS_PER_STEP"), (0, u "I"), (2, u "FEW_DIGITS"), (1, u "PRODUCTS_PER_SUM"), (0, u "FIRST_TRY"), (0, u "GROWTH_PER_TRY"), (49, .class_ 426), (0, u "com/example/subsumption/subsumption/SquareSystem$Residual"), (0, .class_ 428), (0, u "com/example/subsumption/subsumption/SquareSystem$LimbRow")] 112

def k2c0 : Code := { maxStack := 6, maxLocals := 4, code := prog_16_method_11_code, exceptionTable := #[], attributes := #[] }
def k2m0 : Method := { name := "multiply", desc := "([JJ)V", sig := { parameters := [(.array .long), .long], returnType := none }, accessFlags := 8, code := some k2c0 }
/-- com/example/subsumption/subsumption/SquareSystem -/
def k2 : Class := { plain "com/example/subsumption/subsumption/SquareSystem" (some 0) with
  accessFlags := 32
  interfaces := #[]
  cf := some (fileOf pool2 8 #[.nestMembers #[145, 425, 427, 66]] #[{ accessFlags := 8, nameIndex := 174, descriptorIndex := 277, attributes := #[] }] 32 2 #[] #[{ accessFlags := 26, nameIndex := 367, descriptorIndex := 368, attributes := #[] }, { accessFlags := 24, nameIndex := 297, descriptorIndex := 298, attributes := #[] }, { accessFlags := 26, nameIndex := 171, descriptorIndex := 129, attributes := #[] }, { accessFlags := 26, nameIndex := 371, descriptorIndex := 368, attributes := #[] }, { accessFlags := 26, nameIndex := 373, descriptorIndex := 368, attributes := #[] }, { accessFlags := 26, nameIndex := 374, descriptorIndex := 368, attributes := #[] }, { accessFlags := 26, nameIndex := 375, descriptorIndex := 368, attributes := #[] }, { accessFlags := 18, nameIndex := 11, descriptorIndex := 12, attributes := #[] }, { accessFlags := 18, nameIndex := 15, descriptorIndex := 16, attributes := #[] }])
  fields := #[{ name := "BITS_PER_STEP", type := .int, accessFlags := 26, slot := 0, constantValue := 0 }, { name := "PRIME", type := .long, accessFlags := 24, slot := 1, constantValue := 0 }, { name := "BIG_PRIME", type := (.object "java/math/BigInteger"), accessFlags := 26, slot := 2, constantValue := 0 }, { name := "FEW_DIGITS", type := .int, accessFlags := 26, slot := 3, constantValue := 0 }, { name := "PRODUCTS_PER_SUM", type := .int, accessFlags := 26, slot := 4, constantValue := 0 }, { name := "FIRST_TRY", type := .int, accessFlags := 26, slot := 5, constantValue := 0 }, { name := "GROWTH_PER_TRY", type := .int, accessFlags := 26, slot := 6, constantValue := 0 }, { name := "square", type := (.array (.array (.object "java/math/BigInteger"))), accessFlags := 18, slot := 0, constantValue := 0 }, { name := "inverse", type := (.array (.array .long)), accessFlags := 18, slot := 1, constantValue := 0 }]
  methods := #[k2m0]
  instanceTypes := #[(.array (.array (.object "java/math/BigInteger"))), (.array (.array .long))]
  staticTypes := #[.int, .long, (.object "java/math/BigInteger"), .int, .int, .int, .int]
  resolved := Array.replicate 541 none
  statics := some 0 }

def pool3 : Array CpInfo := pool [(1, u "java/lang/Cloneable"), (0, .class_ 1), (0, u "java/lang/Object"), (0, .class_ 3)] 3

/-- java/lang/Cloneable -/
def k3 : Class := { plain "java/lang/Cloneable" (some 0) with
  accessFlags := 1537
  interfaces := #[]
  cf := some (fileOf pool3 2 #[] #[] 1537 4 #[] #[])
  fields := #[]
  methods := #[]
  instanceTypes := #[]
  staticTypes := #[]
  resolved := Array.replicate 8 none
  statics := none }

def pool4 : Array CpInfo := pool [(1, u "java/io/Serializable"), (0, .class_ 1), (0, u "java/lang/Object"), (0, .class_ 3)] 3

/-- java/io/Serializable -/
def k4 : Class := { plain "java/io/Serializable" (some 0) with
  accessFlags := 1537
  interfaces := #[]
  cf := some (fileOf pool4 2 #[] #[] 1537 4 #[] #[])
  fields := #[]
  methods := #[]
  instanceTypes := #[]
  staticTypes := #[]
  resolved := Array.replicate 8 none
  statics := none }

/-- the primitive byte -/
def k5 : Class := { plain "byte" none with kind := .primitive 'B', accessFlags := 0x411 }
/-- [B -/
def k6 : Class := { plain "[B" (some 0) with kind := .array 5 .byte, interfaces := #[3, 4], accessFlags := 1041 }

/-- the primitive int -/
def k7 : Class := { plain "int" none with kind := .primitive 'I', accessFlags := 0x411 }
/-- [I -/
def k8 : Class := { plain "[I" (some 0) with kind := .array 7 .int, interfaces := #[3, 4], accessFlags := 1041 }

/-- the primitive long -/
def k9 : Class := { plain "long" none with kind := .primitive 'J', accessFlags := 0x411 }
/-- [J -/
def k10 : Class := { plain "[J" (some 0) with kind := .array 9 .long, interfaces := #[3, 4], accessFlags := 1041 }

def heap : Heap := #[{ cls := 2, slots := #[.int 0, .long 536870923, .null, .int 0, .int 0, .int 0, .int 0], vm := .statics 2 }]
def classes : Array Class := #[k0, k1, k2, k3, k4, k5, k6, k7, k8, k9, k10]
def interned : List (Array UInt16 × Addr) := []
def slotsUsed : Nat := 7
def theMethod : MethodId := ⟨1, 1⟩
def args0 : Array Value := #[.long 5, .long 3, .long 7, .long 2]
def aboutOver (below : List Frame) : State where
  vm := { classes := classes, interned := interned.toArray }
  heap := heap
  slotsUsed := slotsUsed
  threads := #[{ frames := .invoking theMethod args0 :: below }]
def below0 : List Frame := [.native { method := ⟨0, 0⟩, args := #[] }]
def about1 : State := aboutOver below0
def p0 : Program := .bare "" "" ""
def e0 : Env := launch0.env 0 0 0
theorem w_frames : about1.frames = Frame.invoking theMethod args0 :: below0 := rfl
set_option maxRecDepth 65536 in
theorem w_args : argsFit about1.vm theMethod args0 = true := by decide +kernel
set_option maxRecDepth 65536 in
theorem w_heap : heapFits about1 = true := by decide +kernel
set_option maxRecDepth 65536 in
theorem w_runnable : about1.curStatus? = some .runnable := by decide +kernel
set_option maxRecDepth 65536 in
theorem w_alone : about1.alone = true := by decide +kernel
set_option maxRecDepth 65536 in
theorem w_named : about1.methodNamed? x = some theMethod := by decide +kernel
set_option maxRecDepth 65536 in
theorem w_hears : about1.hears theMethod below0 = true := by decide +kernel
set_option maxRecDepth 65536 in
theorem w_ripe : about1.ripe theMethod args0 below0 = true := by decide +kernel
theorem w_running : about1.status = .running := rfl
set_option maxRecDepth 65536 in
theorem w_room : about1.hasRoom e0.platform room_1 = true :=
  launch0.hasRoom_least _ room_1 (by decide +kernel) (by decide +kernel) (by decide +kernel) (by decide +kernel) (by decide +kernel) (by decide +kernel)
theorem allAtoms_all (ts : List Jvm.Cond) (a : Array Jvm.Value) (st : Jvm.State) : (allAtoms ts).before a st = ts.all (fun c => c.before a st) := by
  induction ts with
  | nil => rfl
  | cons c t ih =>
    show (Jvm.Cond.and c (allAtoms t)).before a st = _
    rw [Jvm.Cond.before_and, ih, List.all_cons]
def words1 : List Jvm.Cond := Jvm.Cond.code x code maxLocals ret :: tables_1
/-- a 'code' word, met by the world's own term for the bytes: nothing is compared byte by byte -/
theorem code_word {y : MethodName} {bytes : ByteArray} {mx : Nat} {rt : Option FieldType} {a : Array Value} {s : State} {m : MethodId} {meth : Method} {c : Code} (h1 : s.methodNamed? y = some m) (h2 : s.vm.method? m = some meth) (h3 : meth.code = some c) (h4 : c.code = bytes)
    (h5 : (c.maxLocals == mx && c.exceptionTable.isEmpty && decide (c.maxStack ≤ mostOperands) && decide (meth.sig.returnType = rt) && !meth.locks && decide (parseMethodDescriptor y.desc = some meth.sig)) = true) : (Jvm.Cond.code y bytes mx rt).before a s = true := by
  simp only [Bool.and_eq_true, beq_iff_eq, Bool.not_eq_true', decide_eq_true_eq] at h5
  obtain ⟨⟨⟨⟨⟨g1, g2⟩, g3⟩, g4⟩, g5⟩, g6⟩ := h5
  simp [Cond.before, Cond.holds, Cond.value, h1, h2, h3, h4, g1, g2, g3, g4, g5, g6]
def isCode : Jvm.Cond → Bool
  | .code _ _ _ _ => true
  | _ => false
theorem all_split {L : List Jvm.Cond} {P : Jvm.Cond → Bool} (h1 : L.all (fun c => isCode c || P c) = true) (h2 : ∀ c ∈ L.filter isCode, P c = true) : L.all P = true := by
  refine List.all_eq_true.mpr fun c hc => ?_
  have h := List.all_eq_true.mp h1 c hc
  rcases Bool.eq_false_or_eq_true (isCode c) with hi | hi
  · exact h2 c (List.mem_filter.mpr ⟨hc, hi⟩)
  · simpa [hi] using h
set_option maxRecDepth 65536 in
theorem w_c0 : (Jvm.Cond.code x code maxLocals ret).before args0 about1 = true := code_word (m := ⟨1, 1⟩) (meth := k1m1) (c := k1c1) (by decide +kernel) rfl rfl rfl (by decide +kernel)
set_option maxRecDepth 65536 in
theorem w_c1 : (Jvm.Cond.code ({ cls := "com/example/subsumption/subsumption/SquareSystem", name := "multiply", desc := "([JJ)V" } : Jvm.MethodName) prog_16_method_11_code (4 : Nat) (Option.none : Option Jvm.ClassFile.FieldType)).before args0 about1 = true := code_word (m := ⟨2, 0⟩) (meth := k2m0) (c := k2c0) (by decide +kernel) rfl rfl rfl (by decide +kernel)
set_option maxRecDepth 65536 in
theorem w_c2 : (Jvm.Cond.code ({ cls := "com/example/subsumption/subsumption/SquareSystemMultiplyPinLaw", name := "isResidueOfProduct", desc := "(JJJJ)Z" } : Jvm.MethodName) method_3_code (8 : Nat) (Option.some Jvm.ClassFile.FieldType.boolean)).before args0 about1 = true := code_word (m := ⟨1, 2⟩) (meth := k1m2) (c := k1c2) (by decide +kernel) rfl rfl rfl (by decide +kernel)
def codes1 : List Jvm.Cond := [Jvm.Cond.code x code maxLocals ret, Jvm.Cond.code ({ cls := "com/example/subsumption/subsumption/SquareSystem", name := "multiply", desc := "([JJ)V" } : Jvm.MethodName) prog_16_method_11_code (4 : Nat) (Option.none : Option Jvm.ClassFile.FieldType), Jvm.Cond.code ({ cls := "com/example/subsumption/subsumption/SquareSystemMultiplyPinLaw", name := "isResidueOfProduct", desc := "(JJJJ)Z" } : Jvm.MethodName) method_3_code (8 : Nat) (Option.some Jvm.ClassFile.FieldType.boolean)]
set_option maxRecDepth 65536 in
theorem codes_eq : words1.filter isCode = codes1 := rfl
theorem w_codes : ∀ c ∈ words1.filter isCode, c.before args0 about1 = true := by
  rw [codes_eq]
  intro c hc
  simp only [codes1, List.mem_cons, List.not_mem_nil, or_false] at hc
  rcases hc with rfl | rfl | rfl
  · exact w_c0
  · exact w_c1
  · exact w_c2
set_option maxRecDepth 65536 in
theorem w_t1 : words1.all (fun c => isCode c || c.before args0 about1) = true := by decide +kernel
theorem w_tables : (allAtoms (Jvm.Cond.code x code maxLocals ret :: tables_1)).before args0 about1 = true := by
  rw [allAtoms_all]
  show words1.all (fun c => c.before args0 about1) = true
  refine all_split ?_ w_codes
  rw [w_t1]
set_option maxRecDepth 65536 in
theorem w_case : (Jvm.Cond.and given_1 narrow_1).before args0 about1 = true := by decide +kernel
theorem w_applies : (headSpec (Jvm.Cond.code x code maxLocals ret :: tables_1) room_1).applies x e0.platform about1 = true :=
  (Spec.applies_iff w_frames).mpr ⟨w_running, w_runnable, w_alone, w_named, w_hears, w_ripe, w_room, w_tables⟩
theorem atStart : AtStart classFile x code maxLocals ret World_1 tables_1 room_1 Calls_1 rest_1 Pre_1 launch0 p0 e0 about1 theMethod args0 below0 :=
  ⟨lists_1, trivial, launch0.admits_env _ _ _, launch0.least_env, fairChoices_fair.cas, fairChoices_fair.clock, w_frames, w_args, w_heap, w_applies, trivial, trivial, w_case⟩
end start1
theorem witness_1 : WitnessClaimed_1 := ⟨start1.p0, start1.e0, start1.about1, start1.theMethod, start1.args0, start1.below0, start1.atStart⟩
end Jvm.Pilot.@@N@@
