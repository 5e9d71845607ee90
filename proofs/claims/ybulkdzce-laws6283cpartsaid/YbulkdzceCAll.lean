import Derived.Test.YbulkdzceCWalkF
namespace Go.Proofs.Ybulkdzce
open Go.RowKit Go.Rk

set_option maxHeartbeats 1000000 in
set_option maxRecDepth 100000 in
theorem walk_c_long (a0 : Int) (a1 : Int) (a2 : Bool) (a3 : Int) (a4 : Int) (a5 : Int) (a6 : Option Addr) (len6 cap6 : Nat) (a7 : Option Addr) (len7 cap7 : Nat) (a8 : Int) (w : World) (h : 1048576 < len6 ∨ 1048576 < len7) :
    Calls Yba.prog 4 #[.int .u8 a0, .int .u64 a1, .bool a2, .int .u64 a3, .int .u64 a4, .int .i64 a5, .slice a6 len6 cap6, .slice a7 len7 cap7, .int .u32 a8] w fun e w' => e = .returned (.bool true) ∧ Below w.heap.size w w' := by
  by_cases h0 : 1048576 < len6
  · go_enter Yba.func4, Yba.ntmps4
    go_wp2
    go_ret
    exact ⟨rfl, Below.refl _ _⟩
  · have h1 : 1048576 < len7 := by omega
    clear h
    go_enter Yba.func4, Yba.ntmps4
    go_wp2
    go_ret
    exact ⟨rfl, Below.refl _ _⟩

theorem walk_c_any (a0 : Int) (a1 : Int) (a2 : Bool) (a3 : Int) (a4 : Int) (a5 : Int) (a6 : Option Addr) (len6 cap6 : Nat) (z6 : List Int) (a7 : Option Addr) (len7 cap7 : Nat) (z7 : List Int) (a8 : Int) (w : World) (b0 : 0 ≤ a0 ∧ a0 ≤ 255) (b1 : 0 ≤ a1 ∧ a1 ≤ 18446744073709551615) (b3 : 0 ≤ a3 ∧ a3 ≤ 18446744073709551615) (w6 : IsRow .u64 w a6 len6 cap6 z6) (w7 : IsRow .u32 w a7 len7 cap7 z7) :
    Calls Yba.prog 4 #[.int .u8 a0, .int .u64 a1, .bool a2, .int .u64 a3, .int .u64 a4, .int .i64 a5, .slice a6 len6 cap6, .slice a7 len7 cap7, .int .u32 a8] w fun e w' => e = .returned (.bool true) ∧ Below w.heap.size w w' := by
  by_cases h : 1048576 < len6 ∨ 1048576 < len7
  · exact walk_c_long a0 a1 a2 a3 a4 a5 a6 len6 cap6 a7 len7 cap7 a8 w h
  · obtain ⟨cnt, hc⟩ : ∃ cnt : Nat, a0 % 70 = (cnt : Int) := ⟨(a0 % 70).toNat, by omega⟩
    cases a2 with
    | true => exact walk_ct a0 a1 a3 a4 a5 a6 len6 cap6 z6 a7 len7 cap7 z7 a8 w b0 b1 b3 w6 w7 (by omega) (by omega) cnt (by omega) hc
    | false => exact walk_cf a0 a1 a3 a4 a5 a6 len6 cap6 z6 a7 len7 cap7 z7 a8 w b0 b1 b3 w6 w7 (by omega) (by omega) cnt (by omega) hc

end Go.Proofs.Ybulkdzce
