import Derived.Test.YbulkdzceRows
import Derived.Test.YbulkdzceKit
import Derived.WalkKit
import Derived.ProofKit
import Derived.OpenShut
import Derived.WalkSpells
namespace Go.Proofs.Ybulkdzce
open Go.RowKit Go.Rk

/-- What 'show' leaves at place k. -/
def shw (A B : List Int) (src self : Int) (k : Nat) : Int :=
  if k < A.length ∧ B.getD k 0 < A.getD k 0 ∧ (k : Int) ≠ src ∧ (k : Int) ≠ self then A.getD k 0 else B.getD k 0

/-- Of the row W the first i places are as 'show' leaves them, the others as they were. -/
def ShwTo (A B : List Int) (src self : Int) (i : Nat) (W : List Int) : Prop :=
  W.length = B.length ∧ ∀ k, k < B.length → W.getD k 0 = if k < i then shw A B src self k else B.getD k 0

theorem shwTo_start (A B : List Int) (src self : Int) : ShwTo A B src self 0 B := ⟨rfl, fun k _ => by simp⟩

theorem shwTo_at {A B : List Int} {src self : Int} {i : Nat} {W : List Int} (h : ShwTo A B src self i W) (hi : i < B.length) : W.getD i 0 = B.getD i 0 := by
  rw [h.2 i hi]; simp

theorem shwTo_yes {A B : List Int} {src self : Int} {i : Nat} {W : List Int} (h : ShwTo A B src self i W) (hA : i < A.length) (hB : i < B.length)
    (h1 : B.getD i 0 < A.getD i 0) (h2 : (i : Int) ≠ src) (h3 : (i : Int) ≠ self) : ShwTo A B src self (i + 1) (W.set i (A.getD i 0)) := by
  refine ⟨by simp [h.1], fun k hk => ?_⟩
  have hW := h.1
  by_cases e : k = i
  · subst e
    have : k < W.length := by omega
    simp [shw, hA, h2, h3, this] at h1 ⊢
    intro h'; omega
  · have hs : (W.set i (A.getD i 0)).getD k 0 = W.getD k 0 := by
      simp [List.getD_eq_getElem?_getD, Ne.symm e]
    rw [hs, h.2 k hk]
    by_cases hki : k < i
    · rw [if_pos hki, if_pos (by omega)]
    · rw [if_neg hki, if_neg (by omega)]

theorem shwTo_no {A B : List Int} {src self : Int} {i : Nat} {W : List Int} (h : ShwTo A B src self i W)
    (h1 : ¬ (B.getD i 0 < A.getD i 0 ∧ (i : Int) ≠ src ∧ (i : Int) ≠ self)) : ShwTo A B src self (i + 1) W := by
  refine ⟨h.1, fun k hk => ?_⟩
  rw [h.2 k hk]
  by_cases hki : k < i
  · rw [if_pos hki, if_pos (by omega)]
  · rw [if_neg hki]
    by_cases e : k = i
    · subst e
      rw [if_pos (by omega), shw, if_neg (fun hh => h1 hh.2)]
    · rw [if_neg (by omega)]

set_option maxHeartbeats 1000000 in
theorem show_some (gM gW : Nat) (x : Addr) (len0 cap0 n : Nat) (A B : List Int) (src self : Int) (w : World)
    (hA : A.length = len0) (hB : B.length = n) (hln : len0 ≤ n) (hn : n ≤ 1048576)
    (h18 : w.cell? ⟨gM, 18, none⟩ = some (.slice (some ⟨gW, 0, none⟩) n n)) (h0 : w.cell? ⟨gM, 0, none⟩ = some (.int .i64 self))
    (hx : ∀ i, i < len0 → w.cell? (x.add i) = some (.int .u32 (A.getD i 0)) ∧ x.block ≠ gW) (hMW : gM ≠ gW) (hR : Row w gW 33 (ints .u32 B)) :
    Calls Yba.prog 5 #[.pointer (some ⟨gM, 0, none⟩), .slice (some x) len0 cap0, .int .i64 src] w fun e w' =>
      e = .returned (.tuple #[]) ∧ (∃ W, ShwTo A B src self len0 W ∧ Row w' gW 33 (ints .u32 W)) ∧ w.grownBy w' (some gW) := by
  have HA : Hid (A.length = len0) := hA
  have HB : Hid (B.length = n) := hB
  clear hA hB
  go_enter Yba.func5, Yba.ntmps5
  go_wp2
  go_loopw [18, 7, 8] (fun i _ _ wr => ∃ (k : Nat) (W : List Int), k ≤ len0 ∧ i = .int .i64 k ∧ ShwTo A B src self k W ∧ Row wr gW 33 (ints .u32 W) ∧ w.grownBy wr (some gW)) (fun i _ _ _ => len0 - (intOf i).toNat)
  case atStart => exact ⟨0, B, Nat.zero_le _, rfl, shwTo_start .., hR, World.grownBy.refl _ _⟩
  case round =>
    obtain ⟨k, W, hk, rfl, hS, hRr, hg⟩ := hrel
    by_cases hlt : k < len0
    · obtain ⟨av, hav⟩ : ∃ av, av = A.getD k 0 := ⟨_, rfl⟩
      obtain ⟨bv, hbv⟩ : ∃ bv, bv = B.getD k 0 := ⟨_, rfl⟩
      have hkA : k < A.length := by have := HA.out; omega
      have hkB : k < B.length := by have := HB.out; omega
      have hc1 : wr.cell? (x.add k) = some (.int .u32 av) := by rw [hav]; exact hg.cell (hx k hlt).1 (by rw [add_block]; simpa using (hx k hlt).2)
      have hc2 : wr.cell? ⟨gW, k, none⟩ = some (.int .u32 bv) := by
        rw [hbv, ← shwTo_at hS hkB]; exact hRr.cell (Rk.ints_at _ _ _ (by have := hS.1; omega))
      have hc0 : wr.cell? ⟨gM, 0, none⟩ = some (.int .i64 self) := hg.cell h0 (by simpa using hMW)
      have hfz : wr.frozen? ⟨gW, k, none⟩ = false := hRr.free k
      have HR : Hid (Row (wr.setCell ⟨gW, k, none⟩ (.int .u32 av)) gW 33 (ints .u32 (W.set k av)) ∧ w.grownBy (wr.setCell ⟨gW, k, none⟩ (.int .u32 av)) (some gW)) :=
        ⟨by rw [← Rk.ints_set]; exact hRr.setCell k _, hg.trans (grownBy_setCell wr gW k _)⟩
      have Hav : Hid (av = A.getD k 0) := hav
      have Hbv : Hid (bv = B.getD k 0) := hbv
      clear hav hbv
      by_cases h1 : bv < av
      · by_cases h2 : (k : Int) = src
        · have h2' : ((k : Int) != src) = false := by simpa using h2
          have H2 : Hid ((k : Int) = src) := h2
          clear h2
          go_wp2
          go_roundw
          case rel => exact ⟨k + 1, W, by omega, by go_num, shwTo_no hS (fun hh => hh.2.1 H2.out), hRr, hg⟩
          case measure => simp [intOf]; omega
        · have h2' : ((k : Int) != src) = true := by simpa using h2
          by_cases h3 : (k : Int) = self
          · have h3' : ((k : Int) != self) = false := by simpa using h3
            have H3 : Hid ((k : Int) = self) := h3
            clear h3
            go_wp2
            go_roundw
            case rel => exact ⟨k + 1, W, by omega, by go_num, shwTo_no hS (fun hh => hh.2.2 H3.out), hRr, hg⟩
            case measure => simp [intOf]; omega
          · have h3' : ((k : Int) != self) = true := by simpa using h3
            go_wp2
            go_roundw
            case rel => exact ⟨k + 1, W.set k av, by omega, by go_num, by rw [Hav.out]; exact shwTo_yes hS hkA hkB (by rw [← Hav.out, ← Hbv.out]; exact h1) h2 h3, HR.out.1, HR.out.2⟩
            case measure => simp [intOf]; omega
      · go_wp2
        go_roundw
        case rel => exact ⟨k + 1, W, by omega, by go_num, shwTo_no hS (fun hh => h1 (by rw [Hav.out, Hbv.out]; exact hh.1)), hRr, hg⟩
        case measure => simp [intOf]; omega
    · obtain rfl : k = len0 := by omega
      go_wp2
      go_end0
      exact ⟨rfl, ⟨W, hS, hRr⟩, hg⟩

set_option maxHeartbeats 1000000 in
theorem show_none (gM gW : Nat) (n : Nat) (B : List Int) (src self : Int) (w : World) (_hn : n ≤ 1048576)
    (h18 : w.cell? ⟨gM, 18, none⟩ = some (.slice (some ⟨gW, 0, none⟩) n n)) (hR : Row w gW 33 (ints .u32 B)) :
    Calls Yba.prog 5 #[.pointer (some ⟨gM, 0, none⟩), .slice none 0 0, .int .i64 src] w fun e w' =>
      e = .returned (.tuple #[]) ∧ (∃ W, ShwTo [] B src self 0 W ∧ Row w' gW 33 (ints .u32 W)) ∧ w.grownBy w' (some gW) := by
  go_enter Yba.func5, Yba.ntmps5
  go_wp2
  refine wp_loop_rounds 1 ?_
  rw [rounds_succ]
  go_wp2
  go_end0
  exact ⟨rfl, ⟨B, shwTo_start .., hR⟩, World.grownBy.refl _ _⟩

/-- 'show', whatever the slice handed in: nil, empty or not. -/
theorem show_any (gM gW : Nat) (a0 : Option Addr) (len0 cap0 n : Nat) (A B : List Int) (src self : Int) (w : World)
    (hnil : a0 = none → len0 = 0 ∧ cap0 = 0) (hA : A.length = len0) (hB : B.length = n) (hln : len0 ≤ n) (hn : n ≤ 1048576)
    (h18 : w.cell? ⟨gM, 18, none⟩ = some (.slice (some ⟨gW, 0, none⟩) n n)) (h0 : w.cell? ⟨gM, 0, none⟩ = some (.int .i64 self))
    (hx : ∀ x, a0 = some x → ∀ i, i < len0 → w.cell? (x.add i) = some (.int .u32 (A.getD i 0)) ∧ x.block ≠ gW) (hMW : gM ≠ gW) (hR : Row w gW 33 (ints .u32 B)) :
    Calls Yba.prog 5 #[.pointer (some ⟨gM, 0, none⟩), .slice a0 len0 cap0, .int .i64 src] w fun e w' =>
      e = .returned (.tuple #[]) ∧ (∃ W, ShwTo A B src self len0 W ∧ Row w' gW 33 (ints .u32 W)) ∧ w.grownBy w' (some gW) := by
  cases a0 with
  | none =>
    obtain ⟨rfl, rfl⟩ := hnil rfl
    obtain rfl : A = [] := List.eq_nil_of_length_eq_zero hA
    exact show_none gM gW n B src self w hn h18 hR
  | some x => exact show_some gM gW x len0 cap0 n A B src self w hA hB hln hn h18 h0 (hx x rfl) hMW hR

end Go.Proofs.Ybulkdzce
