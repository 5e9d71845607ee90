import Derived.Test.YbulkdzdgLaw
namespace Go.Proofs.Ybulkdzdg
open Go.RowKit Go.Rk Go.Maps
set_option linter.unusedVariables false
set_option linter.unusedSimpArgs false

theorem map_eq_nn (w : World) : (binOp .eql 24 (.map none) (.map none)).run Yba.prog w = .ok (.bool true) w := run_eql_map_nil w 24 25 28 none Yba.underlying24

set_option maxHeartbeats 4000000 in
set_option maxRecDepth 100000 in
theorem nil_true_true (a2 : Int) (a4 : Option Addr) (len4 cap4 : Nat) (w : World) (b2 : 0 ≤ a2 ∧ a2 ≤ 255) (hl4 : len4 ≤ 65536) :
    Calls Yba.prog 3 #[.bool true, .bool true, .int .u8 a2, .slice none 0 0, .slice a4 len4 cap4] w fun e w' => e = .returned (.bool true) ∧ Below w.heap.size w w' := by
  obtain ⟨i8, z8, hi8, hz8, hs8, hb8⟩ := info28
  have hne : ∀ w, (binOp .neq 22 (.slice none 0 0) (.slice none 0 0)).run Yba.prog w = .ok (.bool false) w := fun w => run_neq_slice_nil_any w 22 25 none 0 0 0 0 Yba.underlying22
  go_enter Yba.func3, Yba.ntmps3
  go_wp2_with (first
    | (at_make; go_must (refine law_makeN rfl (.tmp 61) (.tmp 61) 31 rfl 28 i8 z8 3 Yba.underlying31 hi8 hz8 hs8 .i64 .i64 _ _ 0 rfl rfl rfl rfl (by omega) (by unfold maxLen; omega) ?_; intro gS wr e1 rS s1 g1; have Br : Below w.heap.size w wr := (Below.refl _ _).grown g1 (Nat.le_refl _) (fun j hj => by cases hj)))
    | fail)
  refine wp_loop_rounds 1 ?_
  rw [rounds_succ]
  obtain ⟨cn, hch⟩ := mk_chan a2 b2 wr
  have hmn := map_eq_nn
  have hc1 := chan_neq
  have hc2 := chan_nil
  have hc3 := chan_nn
  have hp1 := ptr_neq_same
  have hp2 := ptr_neq_nil
  have hll := fun w => Go.run_len_nilMap (P := Yba.prog) (w := w) 24 3 Yba.underlying24
  go_wp2_with fail
  have rT : Row (((wr.alloc (.chan cn #[] false 0 0 false)).alloc (.cells #[.chan (some wr.heap.size), .bool false] 36)).alloc (.cells #[.map none, .pointer (some ⟨(wr.heap.size + 1), 0, none⟩)] 39)) (wr.heap.size + 1 + 1) 39 [.map none, .pointer (some ⟨(wr.heap.size + 1), 0, none⟩)] := newAt 39 _ (by simp)
  have rK : Row (((wr.alloc (.chan cn #[] false 0 0 false)).alloc (.cells #[.chan (some wr.heap.size), .bool false] 36)).alloc (.cells #[.map none, .pointer (some ⟨(wr.heap.size + 1), 0, none⟩)] 39)) (wr.heap.size + 1) 36 [.chan (some wr.heap.size), .bool false] := (newAt 36 _ (by simp)).alloc _
  have hC : (((wr.alloc (.chan cn #[] false 0 0 false)).alloc (.cells #[.chan (some wr.heap.size), .bool false] 36)).alloc (.cells #[.map none, .pointer (some ⟨(wr.heap.size + 1), 0, none⟩)] 39)).heap[wr.heap.size]? = some (.chan cn #[] false 0 0 false) := by
    rw [Below.heap_alloc _ _ _ (by simp; try omega), Below.heap_alloc _ _ _ (by simp; try omega)]; exact heap_alloc_new wr _
  have BW : Below w.heap.size w (((wr.alloc (.chan cn #[] false 0 0 false)).alloc (.cells #[.chan (some wr.heap.size), .bool false] 36)).alloc (.cells #[.map none, .pointer (some ⟨(wr.heap.size + 1), 0, none⟩)] 39)) := belowN3 Br _ _ _
  clear hch
  generalize (((wr.alloc (.chan cn #[] false 0 0 false)).alloc (.cells #[.chan (some wr.heap.size), .bool false] 36)).alloc (.cells #[.map none, .pointer (some ⟨(wr.heap.size + 1), 0, none⟩)] 39)) = V at *
  have T0 := rT.cell (k := 0) rfl
  have T1 := rT.cell (k := 1) rfl
  have K0 := rK.cell (k := 0) rfl
  have hcl := chan_len wr.heap.size cn V hC
  refine (c_some (wr.heap.size + 1 + 1) (wr.heap.size + 1) _ _ _ _ rT rK).mono ?_
  rintro e v9 ⟨rfl, hv9⟩
  replace hv9 := hv9.symm
  subst hv9
  go_wp2
  refine wp_loop_rounds 1 ?_
  rw [rounds_succ]
  go_wp2_with fail
  go_ret
  exact ⟨rfl, BW⟩

set_option maxHeartbeats 4000000 in
set_option maxRecDepth 100000 in
theorem nil_true_false (a2 : Int) (a4 : Option Addr) (len4 cap4 : Nat) (w : World) (b2 : 0 ≤ a2 ∧ a2 ≤ 255) (hl4 : len4 ≤ 65536) :
    Calls Yba.prog 3 #[.bool true, .bool false, .int .u8 a2, .slice none 0 0, .slice a4 len4 cap4] w fun e w' => e = .returned (.bool true) ∧ Below w.heap.size w w' := by
  obtain ⟨i8, z8, hi8, hz8, hs8, hb8⟩ := info28
  have hne : ∀ w, (binOp .neq 22 (.slice none 0 0) (.slice none 0 0)).run Yba.prog w = .ok (.bool false) w := fun w => run_neq_slice_nil_any w 22 25 none 0 0 0 0 Yba.underlying22
  go_enter Yba.func3, Yba.ntmps3
  go_wp2_with (first
    | (at_make; go_must (refine law_makeN rfl (.tmp 61) (.tmp 61) 31 rfl 28 i8 z8 3 Yba.underlying31 hi8 hz8 hs8 .i64 .i64 _ _ 0 rfl rfl rfl rfl (by omega) (by unfold maxLen; omega) ?_; intro gS wr e1 rS s1 g1; have Br : Below w.heap.size w wr := (Below.refl _ _).grown g1 (Nat.le_refl _) (fun j hj => by cases hj)))
    | fail)
  refine wp_loop_rounds 1 ?_
  rw [rounds_succ]
  obtain ⟨cn, hch⟩ := mk_chan a2 b2 wr
  have hmn := map_eq_nn
  have hc1 := chan_neq
  have hc2 := chan_nil
  have hc3 := chan_nn
  have hp1 := ptr_neq_same
  have hp2 := ptr_neq_nil
  have hll := fun w => Go.run_len_nilMap (P := Yba.prog) (w := w) 24 3 Yba.underlying24
  go_wp2_with fail
  have rT : Row ((wr.alloc (.cells #[.chan (none), .bool false] 36)).alloc (.cells #[.map none, .pointer (some ⟨wr.heap.size, 0, none⟩)] 39)) (wr.heap.size + 1) 39 [.map none, .pointer (some ⟨wr.heap.size, 0, none⟩)] := newAt 39 _ (by simp)
  have rK : Row ((wr.alloc (.cells #[.chan (none), .bool false] 36)).alloc (.cells #[.map none, .pointer (some ⟨wr.heap.size, 0, none⟩)] 39)) wr.heap.size 36 [.chan (none), .bool false] := (newAt 36 _ (by simp)).alloc _
  have BW : Below w.heap.size w ((wr.alloc (.cells #[.chan (none), .bool false] 36)).alloc (.cells #[.map none, .pointer (some ⟨wr.heap.size, 0, none⟩)] 39)) := belowN2 Br _ _
  clear hch
  generalize ((wr.alloc (.cells #[.chan (none), .bool false] 36)).alloc (.cells #[.map none, .pointer (some ⟨wr.heap.size, 0, none⟩)] 39)) = V at *
  have T0 := rT.cell (k := 0) rfl
  have T1 := rT.cell (k := 1) rfl
  have K0 := rK.cell (k := 0) rfl
  refine (c_some (wr.heap.size + 1) wr.heap.size _ _ _ _ rT rK).mono ?_
  rintro e v9 ⟨rfl, hv9⟩
  replace hv9 := hv9.symm
  subst hv9
  go_wp2
  refine wp_loop_rounds 1 ?_
  rw [rounds_succ]
  go_wp2_with fail
  go_ret
  exact ⟨rfl, BW⟩

set_option maxHeartbeats 4000000 in
set_option maxRecDepth 100000 in
theorem nil_false_true (a2 : Int) (a4 : Option Addr) (len4 cap4 : Nat) (w : World) (b2 : 0 ≤ a2 ∧ a2 ≤ 255) (hl4 : len4 ≤ 65536) :
    Calls Yba.prog 3 #[.bool false, .bool true, .int .u8 a2, .slice none 0 0, .slice a4 len4 cap4] w fun e w' => e = .returned (.bool true) ∧ Below w.heap.size w w' := by
  obtain ⟨i8, z8, hi8, hz8, hs8, hb8⟩ := info28
  have hne : ∀ w, (binOp .neq 22 (.slice none 0 0) (.slice none 0 0)).run Yba.prog w = .ok (.bool false) w := fun w => run_neq_slice_nil_any w 22 25 none 0 0 0 0 Yba.underlying22
  go_enter Yba.func3, Yba.ntmps3
  go_wp2_with (first
    | (at_make; go_must (refine law_makeN rfl (.tmp 61) (.tmp 61) 31 rfl 28 i8 z8 3 Yba.underlying31 hi8 hz8 hs8 .i64 .i64 _ _ 0 rfl rfl rfl rfl (by omega) (by unfold maxLen; omega) ?_; intro gS wr e1 rS s1 g1; have Br : Below w.heap.size w wr := (Below.refl _ _).grown g1 (Nat.le_refl _) (fun j hj => by cases hj)))
    | fail)
  refine wp_loop_rounds 1 ?_
  rw [rounds_succ]
  obtain ⟨cn, hch⟩ := mk_chan a2 b2 wr
  have hmn := map_eq_nn
  have hc1 := chan_neq
  have hc2 := chan_nil
  have hc3 := chan_nn
  have hp1 := ptr_neq_same
  have hp2 := ptr_neq_nil
  have hll := fun w => Go.run_len_nilMap (P := Yba.prog) (w := w) 24 3 Yba.underlying24
  go_wp2_with fail
  have rT : Row ((wr.alloc (.chan cn #[] false 0 0 false)).alloc (.cells #[.map none, .pointer (none)] 39)) (wr.heap.size + 1) 39 [.map none, .pointer (none)] := newAt 39 _ (by simp)
  have hC : ((wr.alloc (.chan cn #[] false 0 0 false)).alloc (.cells #[.map none, .pointer (none)] 39)).heap[wr.heap.size]? = some (.chan cn #[] false 0 0 false) := by
    rw [Below.heap_alloc _ _ _ (by simp)]; exact heap_alloc_new wr _
  have BW : Below w.heap.size w ((wr.alloc (.chan cn #[] false 0 0 false)).alloc (.cells #[.map none, .pointer (none)] 39)) := belowN2 Br _ _
  clear hch
  generalize ((wr.alloc (.chan cn #[] false 0 0 false)).alloc (.cells #[.map none, .pointer (none)] 39)) = V at *
  have T0 := rT.cell (k := 0) rfl
  have T1 := rT.cell (k := 1) rfl
  have hcl := chan_len wr.heap.size cn V hC
  refine (c_none (wr.heap.size + 1) _ _ rT).mono ?_
  rintro e v9 ⟨rfl, hv9⟩
  replace hv9 := hv9.symm
  subst hv9
  go_wp2
  refine wp_loop_rounds 1 ?_
  rw [rounds_succ]
  go_wp2_with fail
  go_ret
  exact ⟨rfl, BW⟩

set_option maxHeartbeats 4000000 in
set_option maxRecDepth 100000 in
theorem nil_false_false (a2 : Int) (a4 : Option Addr) (len4 cap4 : Nat) (w : World) (b2 : 0 ≤ a2 ∧ a2 ≤ 255) (hl4 : len4 ≤ 65536) :
    Calls Yba.prog 3 #[.bool false, .bool false, .int .u8 a2, .slice none 0 0, .slice a4 len4 cap4] w fun e w' => e = .returned (.bool true) ∧ Below w.heap.size w w' := by
  obtain ⟨i8, z8, hi8, hz8, hs8, hb8⟩ := info28
  have hne : ∀ w, (binOp .neq 22 (.slice none 0 0) (.slice none 0 0)).run Yba.prog w = .ok (.bool false) w := fun w => run_neq_slice_nil_any w 22 25 none 0 0 0 0 Yba.underlying22
  go_enter Yba.func3, Yba.ntmps3
  go_wp2_with (first
    | (at_make; go_must (refine law_makeN rfl (.tmp 61) (.tmp 61) 31 rfl 28 i8 z8 3 Yba.underlying31 hi8 hz8 hs8 .i64 .i64 _ _ 0 rfl rfl rfl rfl (by omega) (by unfold maxLen; omega) ?_; intro gS wr e1 rS s1 g1; have Br : Below w.heap.size w wr := (Below.refl _ _).grown g1 (Nat.le_refl _) (fun j hj => by cases hj)))
    | fail)
  refine wp_loop_rounds 1 ?_
  rw [rounds_succ]
  obtain ⟨cn, hch⟩ := mk_chan a2 b2 wr
  have hmn := map_eq_nn
  have hc1 := chan_neq
  have hc2 := chan_nil
  have hc3 := chan_nn
  have hp1 := ptr_neq_same
  have hp2 := ptr_neq_nil
  have hll := fun w => Go.run_len_nilMap (P := Yba.prog) (w := w) 24 3 Yba.underlying24
  go_wp2_with fail
  have rT : Row (wr.alloc (.cells #[.map none, .pointer (none)] 39)) wr.heap.size 39 [.map none, .pointer (none)] := newAt 39 _ (by simp)
  have BW : Below w.heap.size w (wr.alloc (.cells #[.map none, .pointer (none)] 39)) := belowN1 Br _ 
  clear hch
  generalize (wr.alloc (.cells #[.map none, .pointer (none)] 39)) = V at *
  have T0 := rT.cell (k := 0) rfl
  have T1 := rT.cell (k := 1) rfl
  refine (c_none wr.heap.size _ _ rT).mono ?_
  rintro e v9 ⟨rfl, hv9⟩
  replace hv9 := hv9.symm
  subst hv9
  go_wp2
  refine wp_loop_rounds 1 ?_
  rw [rounds_succ]
  go_wp2_with fail
  go_ret
  exact ⟨rfl, BW⟩

set_option maxHeartbeats 1000000 in
set_option maxRecDepth 100000 in
theorem law_long (a0 a1 : Bool) (a2 : Int) (a3 : Option Addr) (len3 cap3 : Nat) (a4 : Option Addr) (len4 cap4 : Nat) (w : World) (h : 65536 < len3 ∨ 65536 < len4) :
    Calls Yba.prog 3 #[.bool a0, .bool a1, .int .u8 a2, .slice a3 len3 cap3, .slice a4 len4 cap4] w fun e w' => e = .returned (.bool true) ∧ Below w.heap.size w w' := by
  by_cases h3 : 65536 < len3
  · go_enter Yba.func3, Yba.ntmps3
    go_wp2
    go_ret
    exact ⟨rfl, Below.refl _ _⟩
  · have h4 : 65536 < len4 := by omega
    have h3' : decide (65536 < (len3 : Int)) = false := by simp; omega
    go_enter Yba.func3, Yba.ntmps3
    go_wp2
    go_ret
    exact ⟨rfl, Below.refl _ _⟩

theorem law_any (a0 a1 : Bool) (a2 : Int) (a3 : Option Addr) (len3 cap3 : Nat) (z3 : List Int) (a4 : Option Addr) (len4 cap4 : Nat) (z4 : List Int) (w : World) (b2 : 0 ≤ a2 ∧ a2 ≤ 255) (w3 : IsRow .u64 w a3 len3 cap3 z3) (w4 : IsRow .i64 w a4 len4 cap4 z4) :
    Calls Yba.prog 3 #[.bool a0, .bool a1, .int .u8 a2, .slice a3 len3 cap3, .slice a4 len4 cap4] w fun e w' => e = .returned (.bool true) ∧ Below w.heap.size w w' := by
  by_cases hl : 65536 < len3 ∨ 65536 < len4
  · exact law_long a0 a1 a2 a3 len3 cap3 a4 len4 cap4 w hl
  have hl3 : len3 ≤ 65536 := by omega
  have hl4 : len4 ≤ 65536 := by omega
  rcases a3 with _ | x
  · obtain ⟨rfl, rfl⟩ : len3 = 0 ∧ cap3 = 0 := by
      rcases w3 with ⟨_, h, h', _⟩ | ⟨x, h, _⟩
      · exact ⟨h, h'⟩
      · cases h
    cases a0 <;> cases a1
    · exact nil_false_false a2 a4 len4 cap4 w b2 hl4
    · exact nil_false_true a2 a4 len4 cap4 w b2 hl4
    · exact nil_true_false a2 a4 len4 cap4 w b2 hl4
    · exact nil_true_true a2 a4 len4 cap4 w b2 hl4
  · cases a0 <;> cases a1
    · exact law_false_false a2 x len3 cap3 z3 a4 len4 cap4 z4 w w3 w4 b2 hl3 hl4
    · exact law_false_true a2 x len3 cap3 z3 a4 len4 cap4 z4 w w3 w4 b2 hl3 hl4
    · exact law_true_false a2 x len3 cap3 z3 a4 len4 cap4 z4 w w3 w4 b2 hl3 hl4
    · exact law_true_true a2 x len3 cap3 z3 a4 len4 cap4 z4 w w3 w4 b2 hl3 hl4

end Go.Proofs.Ybulkdzdg
