import Derived.Test.YbulkdzcsFile
namespace Go.Proofs.Ybulkdzcs
open Go.RowKit Go.Rk
set_option linter.unusedVariables false

/-- A slice of bytes that reads as A. -/
def Reads (w : World) (ao : Option Addr) (n : Nat) (A : List Int) : Prop := A.length = n ∧ ∀ i, i < n → ∃ x, ao = some x ∧ w.cell? (x.add i) = some (.int .u8 (A.getD i 0))

theorem Reads.of_row {w : World} {g n : Nat} {cur : List Value} {A : List Int} (h : Row w g 5 cur) (ht : cur.take n = ints .u8 A) (hA : A.length = n) : Reads w (some ⟨g, 0, none⟩) n A := by
  refine ⟨hA, fun i hi => ⟨_, rfl, ?_⟩⟩
  have h1 : cur[i]? = some (.int .u8 (A.getD i 0)) := by
    rw [← Rk.ints_at .u8 A i (by omega), ← ht, List.getElem?_take_of_lt hi]
  have := h.cell h1
  have e : (⟨g, 0, none⟩ : Addr).add i = ⟨g, i, none⟩ := by
    unfold Addr.add; split <;> simp_all
  rw [e]; exact this

set_option maxHeartbeats 1000000 in
set_option maxRecDepth 100000 in
theorem beq_same (ao bo : Option Addr) (n ca cb : Nat) (A : List Int) (w : World) (hn : n ≤ 4194304) (ha : Reads w ao n A) (hb : Reads w bo n A) :
    Calls Yba.prog 12 #[.slice ao n ca, .slice bo n cb] w fun e w' => e = .returned (.bool true) ∧ ∃ q, w' = w.drewN q := by
  go_enter Yba.func12, Yba.ntmps12
  go_wp2
  go_loopw [5] (fun i wr => ∃ (k q : Nat), k ≤ n ∧ i = .int .i64 k ∧ wr = w.drewN q) (fun i _ => n - (intOf i).toNat)
  case atStart => exact ⟨0, 0, Nat.zero_le _, rfl, rfl⟩
  case round =>
    obtain ⟨k, q, hk, rfl, rfl⟩ := hrel
    by_cases hlt : k < n
    · obtain ⟨x, rfl, hx⟩ := ha.2 k hlt
      obtain ⟨y, rfl, hy⟩ := hb.2 k hlt
      obtain ⟨av, hav⟩ : ∃ av, av = A.getD k 0 := ⟨_, rfl⟩
      rw [← hav] at hx hy
      clear hav
      go_wp2
      go_region
      all_goals (try go_wp2)
      all_goals
        go_roundw
        case rel => exact ⟨k + 1, q + 1, by omega, by go_num, rfl⟩
        case measure => simp [intOf]; omega
    · go_wp2
      go_ret
      exact ⟨rfl, q, rfl⟩
end Go.Proofs.Ybulkdzcs
