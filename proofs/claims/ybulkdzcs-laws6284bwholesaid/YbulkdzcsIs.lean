/-
  errors.New, errors.Join (of two) and errors.Is BY CONTRACTS, over this seat's program; turned from the guide's worked SentryIs. Numbers off the dump: 54: error · 63: *errors.errorString · 65: errors.errorString · 84: *errors.joinError · 86: errors.joinError · 88: reflectlite's rtype · 90, 93, 95: the interfaces that errors.is asserts.
-/
import Derived.Test.YbulkdzcsRows
import Derived.Test.YbulkdzcsKit
import Derived.WalkKit
import Derived.LaidEql
import Derived.Stop.Asserts
import Derived.RowKitTokens
import Derived.WalkSpells
namespace Go.Proofs.Ybulkdzcs
open Go.RowKit Go.Extern.Stop Go.Stop Go.Extern Go.Rk

theorem isTypeOf (v : Value) (w : World) : (Extern.ReflectliteType.typeOf #[.iface 63 v]).run Yba.prog w = .ok (.iface 88 (.agg #[.pointer (some ⟨1, 63, none⟩)])) w := by kernel_rfl
theorem isComparable (w : World) : ((Extern.ReflectliteType.method fun t => do Go.Extern.Rtype.noPackHeld "Comparable" t; (fun a => Value.bool a.comparable) <$> typeInfo t) #[.agg #[.pointer (some ⟨1, 63, none⟩)]]).run Yba.prog w = .ok (.bool true) w := by kernel_rfl
theorem isComp : (Yba.prog.info? 63).map (·.comparable) = some true := by kernel_rfl
theorem isSize : (Yba.prog.info? 65).map (·.size) = some 1 := by kernel_rfl

theorem noIsE (v : Value) (xT : TypeId) (w : World) : (Instr.typeAssert (.iface 63 v) xT 90 true).run Yba.prog w = .ok (.tuple #[.nilIface, .bool false]) w := run_typeAssert_lacksB Yba.underlying90 (by kernel_rfl) (by kernel_rfl) v xT w
theorem noUnwrapE (v : Value) (xT : TypeId) (w : World) : (Instr.typeAssert (.iface 63 v) xT 93 true).run Yba.prog w = .ok (.tuple #[.nilIface, .bool false]) w := run_typeAssert_lacksB Yba.underlying93 (by kernel_rfl) (by kernel_rfl) v xT w
theorem noUnwrapsE (v : Value) (xT : TypeId) (w : World) : (Instr.typeAssert (.iface 63 v) xT 95 true).run Yba.prog w = .ok (.tuple #[.nilIface, .bool false]) w := run_typeAssert_lacksB Yba.underlying95 (by kernel_rfl) (by kernel_rfl) v xT w
theorem noIsJ (v : Value) (xT : TypeId) (w : World) : (Instr.typeAssert (.iface 84 v) xT 90 true).run Yba.prog w = .ok (.tuple #[.nilIface, .bool false]) w := run_typeAssert_lacksB Yba.underlying90 (by kernel_rfl) (by kernel_rfl) v xT w
theorem noUnwrapJ (v : Value) (xT : TypeId) (w : World) : (Instr.typeAssert (.iface 84 v) xT 93 true).run Yba.prog w = .ok (.tuple #[.nilIface, .bool false]) w := run_typeAssert_lacksB Yba.underlying93 (by kernel_rfl) (by kernel_rfl) v xT w
theorem hasUnwrapsJ (v : Value) (xT : TypeId) (w : World) : (Instr.typeAssert (.iface 84 v) xT 95 true).run Yba.prog w = .ok (.tuple #[.iface 84 v, .bool true]) w := run_typeAssert_hasB Yba.underlying95 (by kernel_rfl) v xT w

/-- errors.is(x, x, true), x a pointer to an errors.errorString. -/
theorem is2_same (a : Addr) (w : World) :
    Calls Yba.prog 19 #[.iface 63 (.pointer (some a)), .iface 63 (.pointer (some a)), .bool true] w fun e w' => e = .returned (.bool true) ∧ w' = w := by
  obtain ⟨i, hi, hcmp⟩ := Option.map_eq_some_iff.1 isComp
  obtain ⟨j, hj, hjs⟩ := Option.map_eq_some_iff.1 isSize
  have heq := run_eql_iface_ptr_same (P := Yba.prog) w a Yba.underlying54 Yba.underlying63 hi hcmp hj
  go_enter Yba.func19, Yba.ntmps19
  go_wp2
  refine wp_loop_rounds 1 ?_
  rw [rounds_succ]
  go_wp2
  go_ret
  exact ⟨rfl, rfl⟩

theorem is2_other (a b : Addr) (ca cb : Array Value) (ta tb : TypeId) (w : World) (hne : a ≠ b) (ha : w.heap[a.block]? = some (.cells ca ta (0, 0))) (hb : w.heap[b.block]? = some (.cells cb tb (0, 0))) :
    Calls Yba.prog 19 #[.iface 63 (.pointer (some a)), .iface 63 (.pointer (some b)), .bool true] w fun e w' => e = .returned (.bool false) ∧ w' = w := by
  obtain ⟨i, hi, hcmp⟩ := Option.map_eq_some_iff.1 isComp
  obtain ⟨j, hj, hjs⟩ := Option.map_eq_some_iff.1 isSize
  have nE := noIsE
  have uE := noUnwrapE
  have vE := noUnwrapsE
  have heq := run_eql_iface_ptr_other (P := Yba.prog) w Yba.underlying54 Yba.underlying63 hi hcmp hj (by rw [hjs]; decide) hne ha hb
  go_enter Yba.func19, Yba.ntmps19
  go_wp2
  refine wp_loop_rounds 1 ?_
  rw [rounds_succ]
  go_wp2
  go_ret
  exact ⟨rfl, rfl⟩

theorem unwrapJ (gJ : Nat) (v : Value) (w : World) (h : Row w gJ 86 [v]) (sp : Option Addr) (n c : Nat) (hv : v = .slice sp n c) :
    Calls Yba.prog 63 #[.pointer (some ⟨gJ, 0, none⟩)] w fun e w' => e = .returned v ∧ w' = w := by
  subst hv
  have c0 := h.cell (k := 0) rfl
  go_enter Yba.func63, Yba.ntmps63
  go_wp2
  go_ret
  exact ⟨rfl, rfl⟩

theorem meth63 (v : Value) (w : World) : (Go.method 258 84 v "Unwrap").run Yba.prog w = .ok (63, v) w := by kernel_rfl
theorem meth67 (v : Value) (w : World) : (Go.method 258 88 v "Comparable").run Yba.prog w = .ok (67, v) w := by kernel_rfl

/-- The error at block a. -/
abbrev er (a : Nat) : Value := .iface 63 (.pointer (some ⟨a, 0, none⟩))

set_option maxHeartbeats 1000000 in
set_option maxRecDepth 100000 in
theorem is2_join_first (gJ gL n c : Nat) (a : Nat) (L : List Value) (w : World) (hJ : Row w gJ 86 [.slice (some ⟨gL, 0, none⟩) n c]) (hL : Row w gL 54 (er a :: L)) (hn : 0 < n) :
    Calls Yba.prog 19 #[.iface 84 (.pointer (some ⟨gJ, 0, none⟩)), .iface 63 (.pointer (some ⟨a, 0, none⟩)), .bool true] w fun e w' => e = .returned (.bool true) ∧ w' = w := by
  have nE := noIsJ
  have uE := noUnwrapJ
  have vE := hasUnwrapsJ
  have mU := meth63
  have c0 : w.cell? ⟨gL, 0, none⟩ = some (.iface 63 (.pointer (some ⟨a, 0, none⟩))) := hL.cell (k := 0) rfl
  have hty := run_eql_iface_types (P := Yba.prog) 84 63 (.pointer (some ⟨gJ, 0, none⟩)) (.pointer (some ⟨a, 0, none⟩)) Yba.underlying54 (by decide) w
  go_enter Yba.func19, Yba.ntmps19
  go_wp2
  refine wp_loop_rounds 1 ?_
  rw [rounds_succ]
  go_wp2_with (go_at_call 63; refine (unwrapJ gJ _ _ hJ _ _ _ rfl).mono ?_; rintro e w' ⟨rfl, rfl⟩)
  refine wp_loop_rounds 1 ?_
  rw [rounds_succ]
  go_wp2_with (go_at_call 19; refine (is2_same ⟨a, 0, none⟩ _).mono ?_; rintro e w' ⟨rfl, rfl⟩)
  go_ret
  exact ⟨rfl, rfl⟩

set_option maxHeartbeats 1000000 in
set_option maxRecDepth 100000 in
theorem is2_join_one (gJ gL c : Nat) (a b : Nat) (L : List Value) (w : World) (hJ : Row w gJ 86 [.slice (some ⟨gL, 0, none⟩) 1 c]) (hL : Row w gL 54 (er a :: L)) (hne : a ≠ b) (A B : List Value) (hA : Row w a 65 A) (hB : Row w b 65 B) :
    Calls Yba.prog 19 #[.iface 84 (.pointer (some ⟨gJ, 0, none⟩)), .iface 63 (.pointer (some ⟨b, 0, none⟩)), .bool true] w fun e w' => e = .returned (.bool false) ∧ w' = w := by
  have nE := noIsJ
  have uE := noUnwrapJ
  have vE := hasUnwrapsJ
  have mU := meth63
  have c0 : w.cell? ⟨gL, 0, none⟩ = some (.iface 63 (.pointer (some ⟨a, 0, none⟩))) := hL.cell (k := 0) rfl
  have hty := run_eql_iface_types (P := Yba.prog) 84 63 (.pointer (some ⟨gJ, 0, none⟩)) (.pointer (some ⟨b, 0, none⟩)) Yba.underlying54 (by decide) w
  go_enter Yba.func19, Yba.ntmps19
  go_wp2
  refine wp_loop_rounds 1 ?_
  rw [rounds_succ]
  go_wp2_with (go_at_call 63; refine (unwrapJ gJ _ _ hJ _ _ _ rfl).mono ?_; rintro e w' ⟨rfl, rfl⟩)
  refine wp_loop_rounds 2 ?_
  rw [rounds_succ]
  go_wp2_with (go_at_call 19; refine (is2_other ⟨a, 0, none⟩ ⟨b, 0, none⟩ _ _ _ _ _ (fun e => hne (by injection e)) hA hB).mono ?_; rintro e w' ⟨rfl, rfl⟩)
  rw [rounds_succ]
  go_wp2
  go_ret
  exact ⟨rfl, rfl⟩

set_option maxHeartbeats 1000000 in
set_option maxRecDepth 100000 in
theorem is2_join_second (gJ gL n c : Nat) (a b : Nat) (L : List Value) (w : World) (hJ : Row w gJ 86 [.slice (some ⟨gL, 0, none⟩) n c]) (hL : Row w gL 54 (er a :: er b :: L)) (hn : 1 < n) (hne : a ≠ b) (A B : List Value) (hA : Row w a 65 A) (hB : Row w b 65 B) :
    Calls Yba.prog 19 #[.iface 84 (.pointer (some ⟨gJ, 0, none⟩)), .iface 63 (.pointer (some ⟨b, 0, none⟩)), .bool true] w fun e w' => e = .returned (.bool true) ∧ w' = w := by
  have nE := noIsJ
  have uE := noUnwrapJ
  have vE := hasUnwrapsJ
  have mU := meth63
  have c0 : w.cell? ⟨gL, 0, none⟩ = some (.iface 63 (.pointer (some ⟨a, 0, none⟩))) := hL.cell (k := 0) rfl
  have c1 : w.cell? ⟨gL, 1, none⟩ = some (.iface 63 (.pointer (some ⟨b, 0, none⟩))) := hL.cell (k := 1) rfl
  have hty := run_eql_iface_types (P := Yba.prog) 84 63 (.pointer (some ⟨gJ, 0, none⟩)) (.pointer (some ⟨b, 0, none⟩)) Yba.underlying54 (by decide) w
  go_enter Yba.func19, Yba.ntmps19
  go_wp2
  refine wp_loop_rounds 1 ?_
  rw [rounds_succ]
  go_wp2_with (go_at_call 63; refine (unwrapJ gJ _ _ hJ _ _ _ rfl).mono ?_; rintro e w' ⟨rfl, rfl⟩)
  refine wp_loop_rounds 2 ?_
  rw [rounds_succ]
  go_wp2_with (go_at_call 19; refine (is2_other ⟨a, 0, none⟩ ⟨b, 0, none⟩ _ _ _ _ _ (fun e => hne (by injection e)) hA hB).mono ?_; rintro e w' ⟨rfl, rfl⟩)
  rw [rounds_succ]
  go_wp2_with (go_at_call 19; refine (is2_same ⟨b, 0, none⟩ _).mono ?_; rintro e w' ⟨rfl, rfl⟩)
  go_ret
  exact ⟨rfl, rfl⟩

/- errors.Is(j, x), j a joinError: as errors.is says. -/
set_option maxRecDepth 100000 in
theorem is_of_is2 (gJ : Nat) (b : Nat) (r : Bool) (w : World)
    (h : Calls Yba.prog 19 #[.iface 84 (.pointer (some ⟨gJ, 0, none⟩)), .iface 63 (.pointer (some ⟨b, 0, none⟩)), .bool true] w fun e w' => e = .returned (.bool r) ∧ w' = w) :
    Calls Yba.prog 13 #[.iface 84 (.pointer (some ⟨gJ, 0, none⟩)), .iface 63 (.pointer (some ⟨b, 0, none⟩))] w fun e w' => e = .returned (.bool r) ∧ w' = w := by
  have H : Hid (Calls Yba.prog 19 #[.iface 84 (.pointer (some ⟨gJ, 0, none⟩)), .iface 63 (.pointer (some ⟨b, 0, none⟩)), .bool true] w fun e w' => e = .returned (.bool r) ∧ w' = w) := h
  clear h
  have h18 := @run_callFunc_extern Yba.prog 18 _ Extern.ReflectliteType.typeOf Yba.func18 (by kernel_rfl) (by kernel_rfl) (by kernel_rfl) (by kernel_rfl)
  have h67 := @run_callFunc_extern Yba.prog 67 _ (Extern.ReflectliteType.method fun t => do Go.Extern.Rtype.noPackHeld "Comparable" t; pure (.bool (← typeInfo t).comparable)) Yba.func67 (by kernel_rfl) (by kernel_rfl) (by kernel_rfl) (by kernel_rfl)
  have tT := isTypeOf
  have cT := isComparable
  have mR := meth67
  go_enter Yba.func13, Yba.ntmps13
  go_wp2_with (go_at_call 19; refine H.out.mono ?_; rintro e w' ⟨rfl, rfl⟩)
  go_ret
  exact ⟨rfl, rfl⟩

/-- errors.New. -/
theorem new_any (s : ByteArray) (w : World) :
    Calls Yba.prog 10 #[.string s] w fun e w' => e = .returned (er w.heap.size) ∧ w' = w.alloc (.cells #[.string s] 65) := by
  go_enter Yba.func10, Yba.ntmps10
  go_wp2
  go_ret
  exact ⟨rfl, rfl⟩

end Go.Proofs.Ybulkdzcs
