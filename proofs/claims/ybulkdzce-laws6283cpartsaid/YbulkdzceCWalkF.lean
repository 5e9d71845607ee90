import Derived.Test.YbulkdzceCWalk
namespace Go.Proofs.Ybulkdzce
open Go.RowKit Go.Rk
set_option linter.unusedVariables false

set_option maxHeartbeats 1000000 in
set_option maxRecDepth 100000 in
theorem walk_cf (a0 : Int) (a1 : Int) (a3 : Int) (a4 : Int) (a5 : Int) (a6 : Option Addr) (len6 cap6 : Nat) (z6 : List Int) (a7 : Option Addr) (len7 cap7 : Nat) (z7 : List Int) (a8 : Int) (w : World) (b0 : 0 ≤ a0 ∧ a0 ≤ 255) (b1 : 0 ≤ a1 ∧ a1 ≤ 18446744073709551615) (b3 : 0 ≤ a3 ∧ a3 ≤ 18446744073709551615) (w6 : IsRow .u64 w a6 len6 cap6 z6) (w7 : IsRow .u32 w a7 len7 cap7 z7)
   (hl6 : len6 ≤ 1048576) (hl7 : len7 ≤ 1048576) (cnt : Nat) (hcnt : cnt < 70) (hc : a0 % 70 = (cnt : Int)) :
    Calls Yba.prog 4 #[.int .u8 a0, .int .u64 a1, .bool false, .int .u64 a3, .int .u64 a4, .int .i64 a5, .slice a6 len6 cap6, .slice a7 len7 cap7, .int .u32 a8] w fun e w' => e = .returned (.bool true) ∧ Below w.heap.size w w' := by
  obtain ⟨oc, hob⟩ := oldBuilt
  obtain ⟨i7, z7', hi7, hz7, hs7, hb7, hcz⟩ := info70
  have c1 : decide (1048576 < (len6 : Int)) = false := by simp; omega
  have c2 : decide (1048576 < (len7 : Int)) = false := by simp; omega
  obtain ⟨i3, hi3, hz30, hz31, hz32⟩ := info_parts c_info33
  obtain ⟨A, hA⟩ : ∃ A, A = z7.take len7 := ⟨_, rfl⟩
  have hAl : Hid (A.length = len7) := by rw [hA]; exact w7.lenEq
  have hAmin : Hid ((ints .u32 A).length = Nat.min len7 len7) := by show _ = _; rw [length_ints, hAl.out]; exact (Nat.min_self _).symm
  have hfitA : Hid (0 + (ints .u32 A).length ≤ (List.replicate len7 (Value.int .u32 0)).length) := by show _ ≤ _; rw [length_ints, hAl.out]; simp
  have HA : Hid (∀ w', Below w.heap.size w w' → 0 < (ints .u32 A).length → ∃ ad, a7 = some ad ∧ ∀ j v, (ints .u32 A)[j]? = some v → w'.cell? (ad.add j) = some v) := by rw [hA]; exact fun w' hb => w7.pos hb
  have HX : Hid (∀ w' x, Below w.heap.size w w' → a7 = some x → ∀ i, i < len7 → w'.cell? (x.add i) = some (.int .u32 (A.getD i 0)) ∧ x.block < w.heap.size) := by rw [hA]; exact fun w' x hb hx i h => w7.at hb hx i h
  have hspA : Hid (splice (List.replicate len7 (Value.int .u32 0)) 0 (ints .u32 A) = ints .u32 A) := c_splice_all _ _ (by rw [length_ints, hAl.out]; simp)
  clear hA
  have hmul : i7.bytes * cnt ≤ 281474976710656 := Nat.le_trans (Nat.mul_le_mul hb7 (Nat.le_of_lt hcnt)) (by omega)
  go_enter Yba.func4, Yba.ntmps4
  go_wp2_with (first
    | (with_reducible refine at_build 53 ?_; obtain ⟨mc, mb, m47, mm⟩ := memCBuilt ⟨w.heap.size, 0, none⟩ a4 a5; refine law_build rfl 53 _ rfl [(1, .iface 56 (.pointer (some ⟨w.heap.size, 0, none⟩))), (13, .int .u64 a4), (31, .int .i64 a5)] rfl _ mb ?_; clear mb)
    | (with_reducible refine at_build 63 ?_; refine law_build rfl 63 _ rfl [(1, .int .i64 2), (2, .int .u32 9)] rfl _ hob ?_)
    | (at_make; obtain ⟨rH0, rM0, rO0, B0, s0⟩ := stage1 w mc oc a3; refine law_makeN rfl (.tmp 66) (.tmp 66) 32 rfl 70 i7 z7' 25 Yba.underlying32 hi7 hz7 hs7 .i64 .i64 _ _ cnt rfl rfl rfl rfl hmul (by unfold maxLen; omega) ?_; intro gP v1 e1 rP1 s1 g1; have rM1 := rM0.grown g1 (by simp); have q14 := rM1.cell (k := 14) (v := .slice none 0 0) (by have := mm.out.2.1; simp [this]); have f14 := rM1.free 14)
    | fail)
  have E0 : w.heap.size + 2 < gP := by have := e1.out.trans s0; omega
  have rH1 := (rH0.grown g1 (by simp)).setOther ⟨w.heap.size + 1, 14, none⟩ (by simp) (.slice (some ⟨gP, 0, none⟩) cnt cnt)
  have rO1 := (rO0.grown g1 (by simp)).setOther ⟨w.heap.size + 1, 14, none⟩ (by simp) (.slice (some ⟨gP, 0, none⟩) cnt cnt)
  have rP2 := rP1.setOther ⟨w.heap.size + 1, 14, none⟩ (by simp; omega) (.slice (some ⟨gP, 0, none⟩) cnt cnt)
  have rM2 := rM1.setCell 14 (.slice (some ⟨gP, 0, none⟩) cnt cnt)
  have B1 : Below w.heap.size w (v1.setCell ⟨w.heap.size + 1, 14, none⟩ (.slice (some ⟨gP, 0, none⟩) cnt cnt)) := (B0.grown g1 B0.size (fun k hk => by cases hk)).setCell (by simp) _
  have S1 : Hid ((v1.setCell ⟨w.heap.size + 1, 14, none⟩ (.slice (some ⟨gP, 0, none⟩) cnt cnt)).heap.size = gP + 1) := by show _ = _; rw [← s1.out]; simp [World.setCell]
  have hMM : MemOk _ w.heap.size gP cnt a4 a5 a3 := memOk_mk (gP := gP) (cnt := cnt) (now := a3) mm.out m47
  have hPO := peers_made (cnt := cnt) hcz.out
  generalize v1.setCell ⟨w.heap.size + 1, 14, none⟩ (.slice (some ⟨gP, 0, none⟩) cnt cnt) = W1 at *
  generalize (madeCells z7'.cells (cnt * 25)).toList = L0 at *
  generalize (mc.toList.set 47 (.int .u64 a3)).set 14 (.slice (some ⟨gP, 0, none⟩) cnt cnt) = M at *
  clear rM0 rH0 rO0 rM1 rP1 q14 f14 g1 B0 s0 mm m47 hob hi7 hz7 hs7 hmul
  obtain ⟨Z, hZ⟩ : ∃ Z, Z = z6.take len6 := ⟨_, rfl⟩
  have hZl : Hid (Z.length = len6) := by rw [hZ]; exact w6.lenEq
  have HZ : Hid (∀ w' x, Below w.heap.size w w' → a6 = some x → ∀ i, i < len6 → w'.cell? (x.add i) = some (.int .u64 (Z.getD i 0)) ∧ x.block < w.heap.size) := by rw [hZ]; exact fun w' x hb hx i h => w6.at hb hx i h
  clear hZ
  go_loopw [24, 25] (fun i _ wr => ∃ (k : Nat) (L : List Value), k ≤ cnt ∧ i = .int .i64 k ∧ Row wr gP 70 L ∧ PeersOk L cnt (tdL (w.heap.size + 1 + 1) k) (tiL Z k) ∧ Kept [gP] W1 wr) (fun i _ _ => cnt - (intOf i).toNat)
  case atStart => exact ⟨0, L0, Nat.zero_le _, rfl, rP2, hPO.congr (fun j _ => by simp [tdL]) (fun j _ => by simp [tiL]), Kept.refl _ _⟩
  case round =>
    obtain ⟨k, L, hk, rfl, rPr, hPr, hkr⟩ := hrel
    have rMr : Row wr (w.heap.size + 1) 53 M := rM2.kept hkr (by simp; omega)
    by_cases hlt : k < cnt
    · have q14 := rMr.cell hMM.2.1
      obtain ⟨p1, p2, p3⟩ := hPr.2 k hlt
      have q1 := rPr.cell p1
      have q2 := rPr.cell p2
      have f1 := rPr.free (k * 25 + 18)
      have f2 := rPr.free (k * 25 + 19)
      have Br : Below w.heap.size w wr := hkr.below B1 B1.size (fun s hs => by simp at hs; omega)
      obtain ⟨zv, hzv⟩ : ∃ zv, zv = Z.getD k 0 := ⟨_, rfl⟩
      have R1 := rPr.setCell (k * 25 + 19) (.int .u64 zv)
      have K1 := hkr.setCell gP (k * 25 + 19) (by simp) (.int .u64 zv)
      have R2 := R1.setCell (k * 25 + 18) (.pointer (some ⟨w.heap.size + 1 + 1, 0, none⟩))
      have K2 := K1.setCell gP (k * 25 + 18) (by simp) (.pointer (some ⟨w.heap.size + 1 + 1, 0, none⟩))
      by_cases hev : k % 2 = 0
      · have hev' : (((k : Int) % 2) == 0) = true := by rw [beq_iff_eq]; omega
        have HE := lay_even hPr hlt hev
        rw [← hzv] at HE
        clear hev
        by_cases h6 : k < len6
        · obtain ⟨x, hx⟩ : ∃ x, a6 = some x := by
            cases a6 with
            | none => have := (w6.nil rfl).1; omega
            | some x => exact ⟨x, rfl⟩
          have hcz := (HZ.out wr x Br hx k h6).1
          rw [← hzv] at hcz
          clear hzv
          subst hx
          go_wp2
          go_roundw
          case rel => exact ⟨k + 1, _, by omega, by go_num, R2, HE, K2⟩
          case measure => simp [intOf]; omega
        · have h6' : decide ((k : Int) < (len6 : Int)) = false := by simp; omega
          obtain rfl : zv = 0 := by rw [hzv]; have := hZl.out; simp [List.getElem?_eq_none (show Z.length ≤ k by omega)]
          clear hzv
          go_wp2
          go_roundw
          case rel => exact ⟨k + 1, _, by omega, by go_num, R2, HE, K2⟩
          case measure => simp [intOf]; omega
      · have hev' : (((k : Int) % 2) == 0) = false := by rw [beq_eq_false_iff_ne]; omega
        have HE := lay_odd hPr hlt hev
        rw [← hzv] at HE
        clear hev
        by_cases h6 : k < len6
        · obtain ⟨x, hx⟩ : ∃ x, a6 = some x := by
            cases a6 with
            | none => have := (w6.nil rfl).1; omega
            | some x => exact ⟨x, rfl⟩
          have hcz := (HZ.out wr x Br hx k h6).1
          rw [← hzv] at hcz
          clear hzv
          subst hx
          go_wp2
          go_roundw
          case rel => exact ⟨k + 1, _, by omega, by go_num, R1, HE, K1⟩
          case measure => simp [intOf]; omega
        · have h6' : decide ((k : Int) < (len6 : Int)) = false := by simp; omega
          obtain rfl : zv = 0 := by rw [hzv]; have := hZl.out; simp [List.getElem?_eq_none (show Z.length ≤ k by omega)]
          clear hzv
          go_wp2
          go_roundw
          case rel => exact ⟨k + 1, _, by omega, by go_num, R1, HE, K1⟩
          case measure => simp [intOf]; omega
    · obtain rfl : k = cnt := by omega
      have rHr : Row wr w.heap.size 58 _ := rH1.kept hkr (by simp; omega)
      have Br : Below w.heap.size w wr := hkr.below B1 B1.size (fun s hs => by simp at hs; omega)
      have Sz : gP < wr.heap.size := rPr.lt
      clear rP2 rH1 rO1 rM2 hPO S1 hkr B1 e1 s1 hlt
      go_wp2_with (first
        | (at_make; go_must (refine law_make rfl (.tmp 103) (.tmp 103) 22 rfl 33 i3 (.int .u32 0) 4 Yba.underlying22 hi3 hz30 hz31 hz32 rfl .i64 .i64 _ _ len7 len7 rfl rfl rfl rfl (Nat.le_refl _) (by omega) (by unfold maxLen; omega) ?_; intro gA v2 e2 rA2 s2 g2; have Bv2 : Below w.heap.size w v2 := Br.grown g2 Br.size (fun k hk => by cases hk)))
        | (with_reducible refine at_copy (.tmp 105) (.tmp 106) ?_; refine law_copy rfl (.tmp 105) (.tmp 106) 22 22 rfl 33 Yba.underlying22 c_size33 gA 0 _ _ _ _ _ rfl rfl (List.replicate len7 (.int .u32 0)) 33 rA2 (ints .u32 A) hAmin.out (HA.out _ Bv2) hfitA.out (ints_one _ _) ?_; intro v3 rA3 s3 g3; rw [hspA.out] at rA3; have Bv3 : Below w.heap.size w v3 := Bv2.grown g3 Bv2.size (fun k hk => by cases hk; rw [e2.out]; exact Br.size))
        | (with_reducible refine at_build 63 ?_; obtain ⟨pc, pb, pm⟩ := pduBuilt (some ⟨gA, 0, none⟩) len7 len7 a8; refine law_build rfl 63 _ rfl [(1, .int .i64 1), (2, .int .u32 3), (3, .slice (some ⟨gA, 0, none⟩) len7 len7), (12, .int .u32 a8)] rfl _ pb ?_; clear pb)
        | fail)
      have EA : gP < gA := by have := e2.out; omega
      have ES : gA < v3.heap.size := rA3.lt
      have rQ := Row.newA v3 63 pc
      have rA4 := rA3.alloc (.cells pc 63)
      have rP4 := ((rPr.grown g2 (by simp)).grown g3 (by simp; omega)).alloc (.cells pc 63)
      have rM4 := ((rMr.grown g2 (by simp)).grown g3 (by simp; omega)).alloc (.cells pc 63)
      have rH4 := ((rHr.grown g2 (by simp)).grown g3 (by simp; omega)).alloc (.cells pc 63)
      have B4 : Below w.heap.size w (v3.alloc (.cells pc 63)) := Bv3.alloc Bv3.size _
      clear rPr rMr rHr rA2 rA3 g2 g3 Bv2 Bv3 Br e2 s2 s3 hspA hAmin hfitA hi3 hz30 hz31 hz32
      refine (tell_any (w.heap.size + 1) gP w.heap.size v3.heap.size k a1 a3 a4 M L _ _ _ hcnt (by omega) (by omega) rM4 rP4 rH4 (by omega) (by omega) (by omega) hMM.2.1 hMM.2.2.1 hMM.2.2.2.2 hMM.1 hMM.2.2.2.1 hPr).mono ?_
      rintro e v5 ⟨rfl, ⟨L5, rP5, hP5⟩, rM5, rH5, K5⟩
      have rQ5 := rQ.kept K5 (by simp; omega)
      have rA5 := rA4.kept K5 (by simp; omega)
      have B5 : Below w.heap.size w v5 := K5.below B4 B4.size (fun s hs => by simp at hs; omega)
      obtain ⟨M5, hM5⟩ : ∃ M5, M5 = (if a1 = a3 then M.set 39 (.int .i64 0) else M) := ⟨_, rfl⟩
      have m14 : M5[14]? = some (.slice (some ⟨gP, 0, none⟩) k k) := by rw [hM5]; split <;> simp [hMM.2.1]
      have m21 : M5[21]? = some (.int .u64 a4) := by rw [hM5]; split <;> simp [hMM.2.2.1]
      have m39 : M5[39]? = some (.int .i64 (if a1 = a3 then 0 else a5)) := by
        rw [hM5]; split
        · have := (List.getElem?_eq_some_iff.1 hMM.2.2.2.1).1
          rw [List.getElem?_set_self this]
        · exact hMM.2.2.2.1
      rw [← hM5] at rM5
      clear hM5 rQ rA4 rP4 rM4 rH4 B4 K5 hPr hMM
      have hpn := ptr_neq_same
      have hpz := ptr_neq_nil
      go_wp2
      go_loop [28, 29, 30, 31, 32] (fun i _ _ _ _ => ∃ j : Nat, j ≤ k ∧ i = .int .i64 j) (fun i _ _ _ _ => k - (intOf i).toNat)
      case atStart => exact ⟨0, Nat.zero_le _, rfl⟩
      case round =>
        obtain ⟨j, hj, rfl⟩ := hrel
        by_cases hjk : j < k
        · obtain ⟨p1, p2, p3⟩ := hP5.2 j hjk
          have q14 := rM5.cell m14
          have q1 := rP5.cell p1
          have q2 := rP5.cell p2
          have q3 := rP5.cell p3
          obtain ⟨zv, hzv⟩ : ∃ zv, zv = Z.getD j 0 := ⟨_, rfl⟩
          by_cases hj64 : j < 64
          · have hlb := law_bits a1 j (by omega) (by omega) hj64
            by_cases hin : inT a1 j = true
            · rw [hin] at hlb
              by_cases hev : j % 2 = 0
              · have hev' : (((j : Int) % 2) == 0) = true := by rw [beq_iff_eq]; omega
                by_cases h6 : j < len6
                · have e1 : tdTo a1 v3.heap.size (tdL (w.heap.size + 1 + 1) k) k j = some ⟨v3.heap.size, 0, none⟩ := by simp [tdTo, hjk, hin]
                  have e2 : tiTo a1 a4 (tiL Z k) k j = a4 := by simp [tiTo, hjk, hin]
                  rw [e1] at q1
                  rw [e2] at q2
                  clear p1 p2 p3 e1 e2 hev hin
                  obtain ⟨x, hx⟩ : ∃ x, a6 = some x := by
                    cases a6 with
                    | none => have := (w6.nil rfl).1; omega
                    | some x => exact ⟨x, rfl⟩
                  have hcz := (HZ.out v5 x B5 hx j h6).1
                  rw [← hzv] at hcz
                  clear hzv
                  subst hx
                  go_wp2
                  go_round
                  case rel => exact ⟨j + 1, by omega, by go_num⟩
                  case measure => simp [intOf]; omega
                · have h6' : decide ((j : Int) < (len6 : Int)) = false := by simp; omega
                  have e1 : tdTo a1 v3.heap.size (tdL (w.heap.size + 1 + 1) k) k j = some ⟨v3.heap.size, 0, none⟩ := by simp [tdTo, hjk, hin]
                  have e2 : tiTo a1 a4 (tiL Z k) k j = a4 := by simp [tiTo, hjk, hin]
                  rw [e1] at q1
                  rw [e2] at q2
                  clear p1 p2 p3 e1 e2 hev hin
                  obtain rfl : zv = 0 := by rw [hzv]; have := hZl.out; simp [List.getElem?_eq_none (show Z.length ≤ j by omega)]
                  clear hzv
                  go_wp2
                  go_round
                  case rel => exact ⟨j + 1, by omega, by go_num⟩
                  case measure => simp [intOf]; omega
              · have hev' : (((j : Int) % 2) == 0) = false := by rw [beq_eq_false_iff_ne]; omega
                by_cases h6 : j < len6
                · have e1 : tdTo a1 v3.heap.size (tdL (w.heap.size + 1 + 1) k) k j = some ⟨v3.heap.size, 0, none⟩ := by simp [tdTo, hjk, hin]
                  have e2 : tiTo a1 a4 (tiL Z k) k j = a4 := by simp [tiTo, hjk, hin]
                  rw [e1] at q1
                  rw [e2] at q2
                  clear p1 p2 p3 e1 e2 hev hin
                  obtain ⟨x, hx⟩ : ∃ x, a6 = some x := by
                    cases a6 with
                    | none => have := (w6.nil rfl).1; omega
                    | some x => exact ⟨x, rfl⟩
                  have hcz := (HZ.out v5 x B5 hx j h6).1
                  rw [← hzv] at hcz
                  clear hzv
                  subst hx
                  go_wp2
                  go_round
                  case rel => exact ⟨j + 1, by omega, by go_num⟩
                  case measure => simp [intOf]; omega
                · have h6' : decide ((j : Int) < (len6 : Int)) = false := by simp; omega
                  have e1 : tdTo a1 v3.heap.size (tdL (w.heap.size + 1 + 1) k) k j = some ⟨v3.heap.size, 0, none⟩ := by simp [tdTo, hjk, hin]
                  have e2 : tiTo a1 a4 (tiL Z k) k j = a4 := by simp [tiTo, hjk, hin]
                  rw [e1] at q1
                  rw [e2] at q2
                  clear p1 p2 p3 e1 e2 hev hin
                  obtain rfl : zv = 0 := by rw [hzv]; have := hZl.out; simp [List.getElem?_eq_none (show Z.length ≤ j by omega)]
                  clear hzv
                  go_wp2
                  go_round
                  case rel => exact ⟨j + 1, by omega, by go_num⟩
                  case measure => simp [intOf]; omega
            · have hin' : inT a1 j = false := by simpa using hin
              rw [hin'] at hlb
              clear hin'
              by_cases hev : j % 2 = 0
              · have hev' : (((j : Int) % 2) == 0) = true := by rw [beq_iff_eq]; omega
                by_cases h6 : j < len6
                · have e1 : tdTo a1 v3.heap.size (tdL (w.heap.size + 1 + 1) k) k j = some ⟨w.heap.size + 1 + 1, 0, none⟩ := by simp [tdTo, tdL, hjk, hin, hev]
                  have e2 : tiTo a1 a4 (tiL Z k) k j = zv := by rw [hzv]; simp [tiTo, tiL, hjk, hin]
                  rw [e1] at q1
                  rw [e2] at q2
                  clear p1 p2 p3 e1 e2 hev hin
                  obtain ⟨x, hx⟩ : ∃ x, a6 = some x := by
                    cases a6 with
                    | none => have := (w6.nil rfl).1; omega
                    | some x => exact ⟨x, rfl⟩
                  have hcz := (HZ.out v5 x B5 hx j h6).1
                  rw [← hzv] at hcz
                  clear hzv
                  subst hx
                  go_wp2
                  go_round
                  case rel => exact ⟨j + 1, by omega, by go_num⟩
                  case measure => simp [intOf]; omega
                · have h6' : decide ((j : Int) < (len6 : Int)) = false := by simp; omega
                  have e1 : tdTo a1 v3.heap.size (tdL (w.heap.size + 1 + 1) k) k j = some ⟨w.heap.size + 1 + 1, 0, none⟩ := by simp [tdTo, tdL, hjk, hin, hev]
                  have e2 : tiTo a1 a4 (tiL Z k) k j = zv := by rw [hzv]; simp [tiTo, tiL, hjk, hin]
                  rw [e1] at q1
                  rw [e2] at q2
                  clear p1 p2 p3 e1 e2 hev hin
                  obtain rfl : zv = 0 := by rw [hzv]; have := hZl.out; simp [List.getElem?_eq_none (show Z.length ≤ j by omega)]
                  clear hzv
                  go_wp2
                  go_round
                  case rel => exact ⟨j + 1, by omega, by go_num⟩
                  case measure => simp [intOf]; omega
              · have hev' : (((j : Int) % 2) == 0) = false := by rw [beq_eq_false_iff_ne]; omega
                by_cases h6 : j < len6
                · have e1 : tdTo a1 v3.heap.size (tdL (w.heap.size + 1 + 1) k) k j = none := by simp [tdTo, tdL, hin, hev]
                  have e2 : tiTo a1 a4 (tiL Z k) k j = zv := by rw [hzv]; simp [tiTo, tiL, hjk, hin]
                  rw [e1] at q1
                  rw [e2] at q2
                  clear p1 p2 p3 e1 e2 hev hin
                  obtain ⟨x, hx⟩ : ∃ x, a6 = some x := by
                    cases a6 with
                    | none => have := (w6.nil rfl).1; omega
                    | some x => exact ⟨x, rfl⟩
                  have hcz := (HZ.out v5 x B5 hx j h6).1
                  rw [← hzv] at hcz
                  clear hzv
                  subst hx
                  go_wp2
                  go_round
                  case rel => exact ⟨j + 1, by omega, by go_num⟩
                  case measure => simp [intOf]; omega
                · have h6' : decide ((j : Int) < (len6 : Int)) = false := by simp; omega
                  have e1 : tdTo a1 v3.heap.size (tdL (w.heap.size + 1 + 1) k) k j = none := by simp [tdTo, tdL, hin, hev]
                  have e2 : tiTo a1 a4 (tiL Z k) k j = zv := by rw [hzv]; simp [tiTo, tiL, hjk, hin]
                  rw [e1] at q1
                  rw [e2] at q2
                  clear p1 p2 p3 e1 e2 hev hin
                  obtain rfl : zv = 0 := by rw [hzv]; have := hZl.out; simp [List.getElem?_eq_none (show Z.length ≤ j by omega)]
                  clear hzv
                  go_wp2
                  go_round
                  case rel => exact ⟨j + 1, by omega, by go_num⟩
                  case measure => simp [intOf]; omega
          · have hin : ¬ inT a1 j = true := by simp [inT, hj64]
            have hj64' : decide ((j : Int) < 64) = false := by simp; omega
            by_cases hev : j % 2 = 0
            · have hev' : (((j : Int) % 2) == 0) = true := by rw [beq_iff_eq]; omega
              by_cases h6 : j < len6
              · have e1 : tdTo a1 v3.heap.size (tdL (w.heap.size + 1 + 1) k) k j = some ⟨w.heap.size + 1 + 1, 0, none⟩ := by simp [tdTo, tdL, hjk, hin, hev]
                have e2 : tiTo a1 a4 (tiL Z k) k j = zv := by rw [hzv]; simp [tiTo, tiL, hjk, hin]
                rw [e1] at q1
                rw [e2] at q2
                clear p1 p2 p3 e1 e2 hev hin
                obtain ⟨x, hx⟩ : ∃ x, a6 = some x := by
                  cases a6 with
                  | none => have := (w6.nil rfl).1; omega
                  | some x => exact ⟨x, rfl⟩
                have hcz := (HZ.out v5 x B5 hx j h6).1
                rw [← hzv] at hcz
                clear hzv
                subst hx
                go_wp2
                go_round
                case rel => exact ⟨j + 1, by omega, by go_num⟩
                case measure => simp [intOf]; omega
              · have h6' : decide ((j : Int) < (len6 : Int)) = false := by simp; omega
                have e1 : tdTo a1 v3.heap.size (tdL (w.heap.size + 1 + 1) k) k j = some ⟨w.heap.size + 1 + 1, 0, none⟩ := by simp [tdTo, tdL, hjk, hin, hev]
                have e2 : tiTo a1 a4 (tiL Z k) k j = zv := by rw [hzv]; simp [tiTo, tiL, hjk, hin]
                rw [e1] at q1
                rw [e2] at q2
                clear p1 p2 p3 e1 e2 hev hin
                obtain rfl : zv = 0 := by rw [hzv]; have := hZl.out; simp [List.getElem?_eq_none (show Z.length ≤ j by omega)]
                clear hzv
                go_wp2
                go_round
                case rel => exact ⟨j + 1, by omega, by go_num⟩
                case measure => simp [intOf]; omega
            · have hev' : (((j : Int) % 2) == 0) = false := by rw [beq_eq_false_iff_ne]; omega
              by_cases h6 : j < len6
              · have e1 : tdTo a1 v3.heap.size (tdL (w.heap.size + 1 + 1) k) k j = none := by simp [tdTo, tdL, hin, hev]
                have e2 : tiTo a1 a4 (tiL Z k) k j = zv := by rw [hzv]; simp [tiTo, tiL, hjk, hin]
                rw [e1] at q1
                rw [e2] at q2
                clear p1 p2 p3 e1 e2 hev hin
                obtain ⟨x, hx⟩ : ∃ x, a6 = some x := by
                  cases a6 with
                  | none => have := (w6.nil rfl).1; omega
                  | some x => exact ⟨x, rfl⟩
                have hcz := (HZ.out v5 x B5 hx j h6).1
                rw [← hzv] at hcz
                clear hzv
                subst hx
                go_wp2
                go_round
                case rel => exact ⟨j + 1, by omega, by go_num⟩
                case measure => simp [intOf]; omega
              · have h6' : decide ((j : Int) < (len6 : Int)) = false := by simp; omega
                have e1 : tdTo a1 v3.heap.size (tdL (w.heap.size + 1 + 1) k) k j = none := by simp [tdTo, tdL, hin, hev]
                have e2 : tiTo a1 a4 (tiL Z k) k j = zv := by rw [hzv]; simp [tiTo, tiL, hjk, hin]
                rw [e1] at q1
                rw [e2] at q2
                clear p1 p2 p3 e1 e2 hev hin
                obtain rfl : zv = 0 := by rw [hzv]; have := hZl.out; simp [List.getElem?_eq_none (show Z.length ≤ j by omega)]
                clear hzv
                go_wp2
                go_round
                case rel => exact ⟨j + 1, by omega, by go_num⟩
                case measure => simp [intOf]; omega
        · have q39 := rM5.cell m39
          have q21 := rM5.cell m21
          have q14 := rM5.cell m14
          have t0 := rH5.cell (k := 0) rfl
          have t1 := rH5.cell (k := 1) rfl
          have t2 := rH5.cell (k := 2) rfl
          have t3 := rH5.cell (k := 3) rfl
          have u1 := rQ5.cell pm.out.1
          have u2 := rQ5.cell pm.out.2.1
          have u3 := rQ5.cell pm.out.2.2.1
          have u12 := rQ5.cell pm.out.2.2.2
          by_cases hlate : a1 = a3
          · have hl' : (a1 == a3) = true := by simpa using hlate
            rw [if_pos hlate] at q39
            have HL : Hid (a1 = a3) := hlate
            clear hlate
            go_wp2
            go_loopw [34] (fun i wr => ∃ n : Nat, n ≤ len7 ∧ i = .int .i64 n ∧ Below w.heap.size w wr ∧ Row wr gA 33 (ints .u32 A) ∧ Row wr v3.heap.size 63 pc.toList) (fun i _ => len7 - (intOf i).toNat)
            case atStart => exact ⟨0, Nat.zero_le _, rfl, B5, rA5, rQ5⟩
            case round =>
              obtain ⟨n, hn, rfl, hbr, rAr, rQr⟩ := hrel
              by_cases hnl : n < len7
              · obtain ⟨av, hav⟩ : ∃ av, av = A.getD n 0 := ⟨_, rfl⟩
                obtain ⟨x, hx⟩ : ∃ x, a7 = some x := by
                  cases a7 with
                  | none => have := (w7.nil rfl).1; omega
                  | some x => exact ⟨x, rfl⟩
                have hcA : wr.cell? ⟨gA, n, none⟩ = some (.int .u32 av) := by rw [hav]; exact rAr.cell (Rk.ints_at _ _ _ (by have := hAl.out; omega))
                have hcX : wr.cell? (x.add n) = some (.int .u32 av) := by rw [hav]; exact (HX.out wr x hbr hx n hnl).1
                have u3' := rQr.cell pm.out.2.2.1
                have hd := hbr.drew
                have rd := rAr.drew
                have rqd := rQr.drew
                clear hav
                subst hx
                go_wp2
                go_region
                all_goals (try go_wp2)
                all_goals
                  go_roundw
                  case rel => exact ⟨n + 1, by omega, by go_num, hd, rd, rqd⟩
                  case measure => simp [intOf]; omega
              · go_wp2
                go_ret
                exact ⟨rfl, hbr⟩
          · have hl' : (a1 == a3) = false := by simpa using hlate
            rw [if_neg hlate] at q39
            go_wp2
            go_loopw [34] (fun i wr => ∃ n : Nat, n ≤ len7 ∧ i = .int .i64 n ∧ Below w.heap.size w wr ∧ Row wr gA 33 (ints .u32 A) ∧ Row wr v3.heap.size 63 pc.toList) (fun i _ => len7 - (intOf i).toNat)
            case atStart => exact ⟨0, Nat.zero_le _, rfl, B5, rA5, rQ5⟩
            case round =>
              obtain ⟨n, hn, rfl, hbr, rAr, rQr⟩ := hrel
              by_cases hnl : n < len7
              · obtain ⟨av, hav⟩ : ∃ av, av = A.getD n 0 := ⟨_, rfl⟩
                obtain ⟨x, hx⟩ : ∃ x, a7 = some x := by
                  cases a7 with
                  | none => have := (w7.nil rfl).1; omega
                  | some x => exact ⟨x, rfl⟩
                have hcA : wr.cell? ⟨gA, n, none⟩ = some (.int .u32 av) := by rw [hav]; exact rAr.cell (Rk.ints_at _ _ _ (by have := hAl.out; omega))
                have hcX : wr.cell? (x.add n) = some (.int .u32 av) := by rw [hav]; exact (HX.out wr x hbr hx n hnl).1
                have u3' := rQr.cell pm.out.2.2.1
                have hd := hbr.drew
                have rd := rAr.drew
                have rqd := rQr.drew
                clear hav
                subst hx
                go_wp2
                go_region
                all_goals (try go_wp2)
                all_goals
                  go_roundw
                  case rel => exact ⟨n + 1, by omega, by go_num, hd, rd, rqd⟩
                  case measure => simp [intOf]; omega
              · go_wp2
                go_ret
                exact ⟨rfl, hbr⟩

end Go.Proofs.Ybulkdzce
