import Derived.Test.YbulkdzdgRows
import Derived.Test.YbulkdzdgKit
import Derived.WalkKit
import Derived.ProofKit
import Derived.OpenShut
import Derived.WalkSpells
namespace Go.Proofs.Ybulkdzdg
open Go.RowKit Go.Rk
set_option linter.unusedVariables false
set_option linter.unusedSimpArgs false

abbrev tm (x y : Int) : List Value := [.int .u64 x, .int .i64 y, .pointer none]

set_option maxHeartbeats 1000000 in
set_option maxRecDepth 100000 in
theorem nsec_any (g : Nat) (x y : Int) (w : World) (h : Row w g 28 (tm x y)) :
    Calls Yba.prog 7 #[.pointer (some ⟨g, 0, none⟩)] w fun e w' => (∃ z, e = .returned (.int .i32 z)) ∧ w' = w := by
  have c0 := h.cell (k := 0) rfl
  go_enter Yba.func7, Yba.ntmps7
  go_wp2
  go_ret
  exact ⟨⟨_, rfl⟩, rfl⟩

set_option maxHeartbeats 1000000 in
set_option maxRecDepth 100000 in
theorem sec_any (g : Nat) (x y : Int) (w : World) (h : Row w g 28 (tm x y)) :
    Calls Yba.prog 10 #[.pointer (some ⟨g, 0, none⟩)] w fun e w' => (∃ z, e = .returned (.int .i64 z)) ∧ w' = w := by
  have c0 := h.cell (k := 0) rfl
  have c1 := h.cell (k := 1) rfl
  go_enter Yba.func10, Yba.ntmps10
  go_wp2
  all_goals
    go_ret
    exact ⟨⟨_, rfl⟩, rfl⟩

set_option maxHeartbeats 1000000 in
set_option maxRecDepth 100000 in
theorem strip_any (g : Nat) (x y : Int) (w : World) (h : Row w g 28 (tm x y)) :
    Calls Yba.prog 9 #[.pointer (some ⟨g, 0, none⟩)] w fun e w' => e = .returned (.tuple #[]) ∧ (∃ x' y', Row w' g 28 (tm x' y')) ∧ w.grownBy w' (some g) := by
  have c0 := h.cell (k := 0) rfl
  have c1 := h.cell (k := 1) rfl
  have f0 := h.free 0
  have f1 := h.free 1
  go_enter Yba.func9, Yba.ntmps9
  go_wp2_with (go_at_call 10; refine (sec_any g x y _ h).mono ?_; rintro e w' ⟨⟨z, rfl⟩, rfl⟩)
  · go_end0
    exact ⟨rfl, ⟨_, _, (h.setCell 1 _).setCell 0 _⟩, (grownBy_setCell _ _ _ _).trans (grownBy_setCell _ _ _ _)⟩
  · go_end0
    exact ⟨rfl, ⟨x, y, h⟩, World.grownBy.refl _ _⟩

set_option maxHeartbeats 2000000 in
set_option maxRecDepth 100000 in
theorem addSec_any (g : Nat) (x y d : Int) (w : World) (h : Row w g 28 (tm x y)) :
    Calls Yba.prog 8 #[.pointer (some ⟨g, 0, none⟩), .int .i64 d] w fun e w' => e = .returned (.tuple #[]) ∧ (∃ x' y', Row w' g 28 (tm x' y')) ∧ w.grownBy w' (some g) := by
  have c0 := h.cell (k := 0) rfl
  have c1 := h.cell (k := 1) rfl
  have f0 := h.free 0
  have f1 := h.free 1
  go_enter Yba.func8, Yba.ntmps8
  go_wp2_with (go_at_call 9; refine (strip_any g x y _ h).mono ?_; rintro e w' ⟨rfl, ⟨x', y', h2⟩, g2⟩; have e0 := h2.cell (k := 0) rfl; have e1 := h2.cell (k := 1) rfl; have k0 := h2.free 0; have k1 := h2.free 1)
  · exact bodyPost_ret (v := .tuple #[]) (by simp [results, Yba.results8, go_sem]) rfl ⟨rfl, ⟨_, _, h.setCell 0 _⟩, grownBy_setCell _ _ _ _⟩
  all_goals first
    | (go_end0; exact ⟨rfl, ⟨_, _, h2.setCell 1 _⟩, g2.trans (grownBy_setCell _ _ _ _)⟩)
    | (go_end0; exact ⟨rfl, ⟨_, _, h.setCell 1 _⟩, grownBy_setCell _ _ _ _⟩)

theorem addRes {w w1 : World} {o : Obj} (g : ((w.alloc o).alloc (.cells #[.int .u64 0, .int .i64 0, .pointer none] 28)).grownBy w1 (some w.heap.size)) : Row w1 (w.heap.size + 1) 28 (tm 0 0) := by
  have h := Row.new (w.alloc o) 28 (tm 0 0)
  have e : (w.alloc o).heap.size = w.heap.size + 1 := by simp
  rw [e] at h
  exact h.grown g (by simp)

theorem addGrow {w w1 : World} {o p : Obj} (g : ((w.alloc o).alloc p).grownBy w1 (some w.heap.size)) : w.grownBy w1 none :=
  ⟨g.os, g.tape, g.output, Nat.le_trans (by simp; omega) g.size, fun k hk _ => by
    rw [g.block k (by simp; omega) (by simp; omega), Below.heap_alloc _ _ _ (by simp; omega), Below.heap_alloc _ _ _ hk]⟩

theorem addGrow2 {w w1 w2 : World} (G : w.grownBy w1 none) (g : w1.grownBy w2 (some w.heap.size)) : w.grownBy w2 none :=
  ⟨g.os.trans G.os, g.tape.trans G.tape, g.output.trans G.output, Nat.le_trans G.size g.size, fun k hk h => by
    rw [g.block k (Nat.lt_of_lt_of_le hk G.size) (by simp; omega)]; exact G.block k hk h⟩

theorem addSet {w w1 : World} (G : w.grownBy w1 none) (k i : Nat) (v : Value) (hk : w.heap.size ≤ k) : w.grownBy (w1.setCell ⟨k, i, none⟩ v) none :=
  ⟨G.os, G.tape, G.output, by have := G.size; simp [World.setCell]; omega, fun j hj h => by
    rw [heap_setCell_other w1 _ j v (by simp; omega)]; exact G.block j hj h⟩

theorem size28 : (Yba.prog.info? 28).map (·.size) = some 3 := by kernel_rfl

set_option maxHeartbeats 4000000 in
set_option maxRecDepth 100000 in
theorem add_any (d : Int) (w : World) :
    Calls Yba.prog 4 #[.agg #[.int .u64 0, .int .i64 0, .pointer none], .int .i64 d] w fun e w' => (∃ x y, e = .returned (.agg #[.int .u64 x, .int .i64 y, .pointer none])) ∧ w.grownBy w' none := by
  have h0 : Row ((w.alloc (.cells #[.int .u64 0, .int .i64 0, .pointer none] 28)).alloc (.cells #[.int .u64 0, .int .i64 0, .pointer none] 28)) w.heap.size 28 (tm 0 0) := (Row.new w 28 (tm 0 0)).alloc _
  go_enter Yba.func4, Yba.ntmps4
  go_wp2_with (first
    | (go_at_call 7; refine (nsec_any w.heap.size 0 0 _ h0).mono ?_; rintro e w' ⟨⟨z, rfl⟩, rfl⟩)
    | (go_at_call 8; go_must (refine (addSec_any w.heap.size _ 0 _ _ ((Row.new w 28 (tm _ 0)).alloc (.cells #[.int .u64 0, .int .i64 0, .pointer none] 28))).mono ?_; rintro e w1 ⟨rfl, ⟨x1, y1, h1⟩, g1⟩; have r1 := addRes g1; have G1 := addGrow g1; have c0 := h1.cell (k := 0) rfl; have c1 := h1.cell (k := 1) rfl; have c2 := h1.cell (k := 2) rfl; have f1 := h1.free 1; have d0 := r1.cell (k := 0) rfl; have d1 := r1.cell (k := 1) rfl; have d2 := r1.cell (k := 2) rfl; have k0 := r1.free 0; have k1 := r1.free 1; have k2 := r1.free 2; clear g1))
    | (go_at_call 9; go_must (refine (strip_any w.heap.size _ _ _ h1).mono ?_; rintro e w2 ⟨rfl, ⟨x2, y2, h2⟩, g2⟩; have r2 := r1.grown g2 (by simp); have G2 := addGrow2 G1 g2; have c0' := h2.cell (k := 0) rfl; have c1' := h2.cell (k := 1) rfl; have c2' := h2.cell (k := 2) rfl; have d0' := r2.cell (k := 0) rfl; have d1' := r2.cell (k := 1) rfl; have d2' := r2.cell (k := 2) rfl; have k0' := r2.free 0; have k1' := r2.free 1; have k2' := r2.free 2; clear g2))
    | fail)
  all_goals first
    | have hz : (bits BinOp.and IntKind.u64 x1 9223372036854775808 != 0) = false := by assumption
      exact bodyPost_ret (results_cell_row Yba.results4 _ _ (w.heap.size + 1) 28 #[.int .u64 x1, .int .i64 y1, .pointer none] (0, 0) _ rfl (((r1.setCell 0 (.int .u64 x1)).setCell 1 (.int .i64 y1)).setCell 2 (.pointer none)) Yba.underlying28 rfl size28) rfl ⟨⟨x1, y1, rfl⟩, addSet (addSet (addSet G1 _ _ _ (by omega)) _ _ _ (by omega)) _ _ _ (by omega)⟩
    | exact bodyPost_ret (results_cell_row Yba.results4 _ _ (w.heap.size + 1) 28 #[.int .u64 x2, .int .i64 y2, .pointer none] (0, 0) _ rfl (((r2.setCell 0 (.int .u64 x2)).setCell 1 (.int .i64 y2)).setCell 2 (.pointer none)) Yba.underlying28 rfl size28) rfl ⟨⟨x2, y2, rfl⟩, addSet (addSet (addSet G2 _ _ _ (by omega)) _ _ _ (by omega)) _ _ _ (by omega)⟩
    | exact bodyPost_ret (results_cell_row Yba.results4 _ _ (w.heap.size + 1) 28 #[.int .u64 x1, .int .i64 (wrap64 (y1 + d)), .pointer none] (0, 0) _ rfl ((((r1.setOther ⟨w.heap.size, 1, none⟩ (by simp) (.int .i64 (wrap64 (y1 + d)))).setCell 0 (.int .u64 x1)).setCell 1 (.int .i64 (wrap64 (y1 + d)))).setCell 2 (.pointer none)) Yba.underlying28 rfl size28) rfl ⟨⟨x1, _, rfl⟩, addSet (addSet (addSet (addSet G1 _ _ _ (by omega)) _ _ _ (by omega)) _ _ _ (by omega)) _ _ _ (by omega)⟩
end Go.Proofs.Ybulkdzdg
