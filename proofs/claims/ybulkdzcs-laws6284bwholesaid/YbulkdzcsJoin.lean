import Derived.Test.YbulkdzcsIs
namespace Go.Proofs.Ybulkdzcs
open Go.RowKit Go.Rk

theorem mk1 (w : World) : (Instr.makeSlice 83 (.int .i64 0) (.int .i64 1)).run Yba.prog w = .ok (.slice (some ⟨w.heap.size, 0, none⟩) 0 1) (w.alloc (.cells #[.nilIface] 54)) := by kernel_rfl
theorem mk2 (w : World) : (Instr.makeSlice 83 (.int .i64 0) (.int .i64 2)).run Yba.prog w = .ok (.slice (some ⟨w.heap.size, 0, none⟩) 0 2) (w.alloc (.cells #[.nilIface, .nilIface] 54)) := by kernel_rfl

theorem cell3 {w : World} {a : Addr} {v : Value} (h : w.cell? a = some v) (o1 o2 o3 : Obj) : (((w.alloc o1).alloc o2).alloc o3).cell? a = some v := by
  have hlt := block_lt_of_cell h
  have hb : Below w.heap.size w (((w.alloc o1).alloc o2).alloc o3) := (((Below.refl _ _).alloc (Nat.le_refl _) _).alloc (by simp) _).alloc (by simp; omega) _
  rw [hb.cell hlt]; exact h

set_option maxHeartbeats 1000000 in
set_option maxRecDepth 100000 in
theorem join_one (gE : Nat) (a : Nat) (w : World) (hE : Row w gE 54 [er a, .nilIface]) :
    Calls Yba.prog 17 #[.slice (some ⟨gE, 0, none⟩) 2 2] w fun e w' => ∃ gJ gL c L, e = .returned (.iface 84 (.pointer (some ⟨gJ, 0, none⟩))) ∧ Row w' gJ 86 [.slice (some ⟨gL, 0, none⟩) 1 c] ∧ Row w' gL 54 (er a :: L) ∧ w.grownBy w' none := by
  have c0 : w.cell? ⟨gE, 0, none⟩ = some (.iface 63 (.pointer (some ⟨a, 0, none⟩))) := hE.cell (k := 0) rfl
  have c1 : w.cell? ⟨gE, 1, none⟩ = some .nilIface := hE.cell (k := 1) rfl
  have c3 := cell3 c1
  have hlt := hE.lt
  have hm := mk1
  go_enter Yba.func17, Yba.ntmps17
  go_wp2
  refine wp_loop_rounds 3 ?_
  rw [rounds_succ]
  go_wp2
  rw [rounds_succ]
  go_wp2
  rw [rounds_succ]
  go_wp2
  refine wp_loop_rounds 3 ?_
  rw [rounds_succ]
  go_wp2
  rw [rounds_succ]
  go_wp2
  rw [rounds_succ]
  go_wp2
  go_ret
  refine ⟨w.heap.size + 1, w.heap.size, 1, [], rfl, ?_, ?_, ?_⟩
  · have := (Row.newA (w.alloc (.cells #[.iface 63 (.pointer (some ⟨a, 0, none⟩))] 54)) 86 #[.slice (some ⟨w.heap.size, 0, none⟩) 1 1]).alloc (.cells #[.iface 63 (.pointer (some ⟨a, 0, none⟩))] 54)
    simpa using this
  · exact ((Row.newA w 54 #[.iface 63 (.pointer (some ⟨a, 0, none⟩))]).alloc _).alloc _
  · exact ((World.grownBy_alloc w _ none).trans (World.grownBy_alloc _ _ none)).trans (World.grownBy_alloc _ _ none)

set_option maxHeartbeats 1000000 in
set_option maxRecDepth 100000 in
theorem join_two (gE : Nat) (a b : Nat) (w : World) (hE : Row w gE 54 [er a, er b]) :
    Calls Yba.prog 17 #[.slice (some ⟨gE, 0, none⟩) 2 2] w fun e w' => ∃ gJ gL c L, e = .returned (.iface 84 (.pointer (some ⟨gJ, 0, none⟩))) ∧ Row w' gJ 86 [.slice (some ⟨gL, 0, none⟩) 2 c] ∧ Row w' gL 54 (er a :: er b :: L) ∧ w.grownBy w' none := by
  have c0 : w.cell? ⟨gE, 0, none⟩ = some (.iface 63 (.pointer (some ⟨a, 0, none⟩))) := hE.cell (k := 0) rfl
  have c1 : w.cell? ⟨gE, 1, none⟩ = some (.iface 63 (.pointer (some ⟨b, 0, none⟩))) := hE.cell (k := 1) rfl
  have c3 := cell3 c1
  have hlt := hE.lt
  have hm := mk2
  go_enter Yba.func17, Yba.ntmps17
  go_wp2
  refine wp_loop_rounds 3 ?_
  rw [rounds_succ]
  go_wp2
  rw [rounds_succ]
  go_wp2
  rw [rounds_succ]
  go_wp2
  refine wp_loop_rounds 3 ?_
  rw [rounds_succ]
  go_wp2
  rw [rounds_succ]
  go_wp2
  rw [rounds_succ]
  go_wp2
  go_ret
  refine ⟨w.heap.size + 1, w.heap.size, 2, [], rfl, ?_, ?_, ?_⟩
  · have := ((Row.newA (w.alloc (.cells #[.iface 63 (.pointer (some ⟨a, 0, none⟩)), .iface 63 (.pointer (some ⟨b, 0, none⟩))] 54)) 86 #[.slice (some ⟨w.heap.size, 0, none⟩) 2 2]).alloc (.cells #[.iface 63 (.pointer (some ⟨a, 0, none⟩))] 54)).alloc (.cells #[.iface 63 (.pointer (some ⟨b, 0, none⟩))] 54)
    simpa using this
  · exact (((Row.newA w 54 #[.iface 63 (.pointer (some ⟨a, 0, none⟩)), .iface 63 (.pointer (some ⟨b, 0, none⟩))]).alloc _).alloc _).alloc _
  · exact (((World.grownBy_alloc w _ none).trans (World.grownBy_alloc _ _ none)).trans (World.grownBy_alloc _ _ none)).trans (World.grownBy_alloc _ _ none)

end Go.Proofs.Ybulkdzcs
