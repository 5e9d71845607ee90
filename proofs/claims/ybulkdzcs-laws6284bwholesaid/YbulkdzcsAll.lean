import Derived.Test.YbulkdzcsLawA
import Derived.Test.YbulkdzcsLawB
import Derived.Test.YbulkdzcsLawC
namespace Go.Proofs.Ybulkdzcs
open Go.RowKit Go.Rk

set_option maxHeartbeats 1000000 in
set_option maxRecDepth 100000 in
theorem law_long (a0 : Option Addr) (len0 cap0 : Nat) (a1 : Option Addr) (len1 cap1 : Nat) (a2 : Int) (a3 : Int) (w : World) (h0 : len0 ≤ 140737488351232) (h1 : len1 ≤ 140737488351232) (h : 1048576 < len0 + len1) :
    Calls Yba.prog 4 #[.slice a0 len0 cap0, .slice a1 len1 cap1, .int .u8 a2, .int .u32 a3] w fun e w' => e = .returned (.bool true) ∧ Below w.heap.size w w' := by
  have hd : decide (1048576 < (len0 : Int) + (len1 : Int)) = true := by simp; omega
  go_enter Yba.func4, Yba.ntmps4
  go_wp2
  go_ret
  exact ⟨rfl, Below.refl _ _⟩

theorem law_any (a0 : Option Addr) (len0 cap0 : Nat) (z0 : List Int) (a1 : Option Addr) (len1 cap1 : Nat) (z1 : List Int) (a2 : Int) (a3 : Int) (w : World) (w0 : IsRow .u8 w a0 len0 cap0 z0) (w1 : IsRow .u8 w a1 len1 cap1 z1) (b2 : 0 ≤ a2 ∧ a2 ≤ 255) (b3 : 0 ≤ a3 ∧ a3 ≤ 4294967295)
    (h0 : len0 ≤ 140737488351232) (h1 : len1 ≤ 140737488351232) :
    Calls Yba.prog 4 #[.slice a0 len0 cap0, .slice a1 len1 cap1, .int .u8 a2, .int .u32 a3] w fun e w' => e = .returned (.bool true) ∧ Below w.heap.size w w' := by
  by_cases hsum : 1048576 < len0 + len1
  · exact law_long a0 len0 cap0 a1 len1 cap1 a2 a3 w h0 h1 hsum
  have hs : len0 + len1 ≤ 1048576 := by omega
  have hm0 := Int.emod_nonneg a3 (b := (len1 : Int) + 2) (by omega)
  have hm1 := Int.emod_lt_of_pos a3 (b := (len1 : Int) + 2) (by omega)
  obtain ⟨kn, hkm⟩ : ∃ kn : Nat, a3 % ((len1 : Int) + 2) = (kn : Int) := ⟨(a3 % ((len1 : Int) + 2)).toNat, by omega⟩
  have hkn : kn ≤ 1048577 := by omega
  by_cases c0 : a2 % 8 = 0
  · exact law_3_seek a0 len0 cap0 z0 a1 len1 cap1 z1 a2 a3 w w0 w1 b2 b3 hs c0 kn hkn hkm
  obtain ⟨s, hc⟩ : ∃ s, a2 % 8 = s := ⟨_, rfl⟩
  have hs0 : (s == 0) = false := by rw [beq_eq_false_iff_ne]; omega
  by_cases hz : len0 = 0
  · subst hz
    by_cases c2 : a2 % 8 = 2
    · exact law_0_s2 a0 cap0 z0 a1 len1 cap1 z1 a2 a3 w w0 w1 b2 b3 hs c2 kn hkn hkm
    by_cases c3 : a2 % 8 = 3
    · exact law_0_s3 a0 cap0 z0 a1 len1 cap1 z1 a2 a3 w w0 w1 b2 b3 hs c3 kn hkn hkm
    exact law_0_ok a0 cap0 z0 a1 len1 cap1 z1 a2 a3 w w0 w1 b2 b3 hs s hc hs0 (by rw [beq_eq_false_iff_ne]; omega) (by rw [beq_eq_false_iff_ne]; omega) kn hkn hkm
  have hpos : 0 < len0 := by omega
  by_cases c1 : a2 % 8 = 1
  · exact law_3_read a0 len0 cap0 z0 a1 len1 cap1 z1 a2 a3 w w0 w1 b2 b3 hs c1 kn hkn hkm hpos
  have hs1 : (s == 1) = false := by rw [beq_eq_false_iff_ne]; omega
  obtain ⟨b, hb⟩ : ∃ b, (z0.take len0).getD (len0 - 1) 0 = b := ⟨_, rfl⟩
  by_cases hnl : b = 10
  · have hb' : (b != 10) = false := by simpa using hnl
    by_cases c2 : a2 % 8 = 2
    · exact law_1_s2 a0 len0 cap0 z0 a1 len1 cap1 z1 a2 a3 w w0 w1 b2 b3 hs c2 kn hkn hkm hpos b hb hb'
    by_cases c3 : a2 % 8 = 3
    · exact law_1_s3 a0 len0 cap0 z0 a1 len1 cap1 z1 a2 a3 w w0 w1 b2 b3 hs c3 kn hkn hkm hpos b hb hb'
    exact law_1_ok a0 len0 cap0 z0 a1 len1 cap1 z1 a2 a3 w w0 w1 b2 b3 hs s hc hs0 hs1 (by rw [beq_eq_false_iff_ne]; omega) (by rw [beq_eq_false_iff_ne]; omega) kn hkn hkm hpos b hb hb'
  · have hb' : (b != 10) = true := by simpa using hnl
    by_cases c2 : a2 % 8 = 2
    · exact law_2_s2 a0 len0 cap0 z0 a1 len1 cap1 z1 a2 a3 w w0 w1 b2 b3 hs c2 kn hkn hkm hpos b hb hb'
    by_cases c3 : a2 % 8 = 3
    · exact law_2_s3 a0 len0 cap0 z0 a1 len1 cap1 z1 a2 a3 w w0 w1 b2 b3 hs c3 kn hkn hkm hpos b hb hb'
    exact law_2_ok a0 len0 cap0 z0 a1 len1 cap1 z1 a2 a3 w w0 w1 b2 b3 hs s hc hs0 hs1 (by rw [beq_eq_false_iff_ne]; omega) (by rw [beq_eq_false_iff_ne]; omega) kn hkn hkm hpos b hb hb'

end Go.Proofs.Ybulkdzcs
