import Derived.Test.YbulkdzcsLaw
namespace Go.Proofs.Ybulkdzcs
open Go.RowKit Go.Rk
set_option linter.unusedVariables false
set_option linter.unusedSimpArgs false

set_option maxHeartbeats 4000000 in
set_option maxRecDepth 100000 in
theorem law_0_s3 (a0 : Option Addr) (cap0 : Nat) (z0 : List Int) (a1 : Option Addr) (len1 cap1 : Nat) (z1 : List Int) (a2 : Int) (a3 : Int) (w : World) (w0 : IsRow .u8 w a0 0 cap0 z0) (w1 : IsRow .u8 w a1 len1 cap1 z1) (b2 : 0 ≤ a2 ∧ a2 ≤ 255) (b3 : 0 ≤ a3 ∧ a3 ≤ 4294967295) (hsum : 0 + len1 ≤ 1048576) (hc : a2 % 8 = 3) (kn : Nat) (hkn : kn ≤ 1048577) (hkm : a3 % ((len1 : Int) + 2) = (kn : Int)) :
    Calls Yba.prog 4 #[.slice a0 0 cap0, .slice a1 len1 cap1, .int .u8 a2, .int .u32 a3] w fun e w' => e = .returned (.bool true) ∧ Below w.heap.size w w' := by
  obtain ⟨i0, hi, hz0, hz1, hz2⟩ := info_parts info5
  obtain ⟨D, hD⟩ : ∃ D, D = z0.take 0 := ⟨_, rfl⟩
  obtain ⟨P, hP⟩ : ∃ P, P = z1.take len1 := ⟨_, rfl⟩
  have hDl : Hid (D.length = 0) := by rw [hD]; exact w0.lenEq
  have hPl : Hid (P.length = len1) := by rw [hP]; exact w1.lenEq
  have hDm : Hid ((ints .u8 D).length = Nat.min 0 0) := by show _ = _; rw [length_ints, hDl.out]; exact (Nat.min_self _).symm
  have hPm : Hid ((ints .u8 P).length = Nat.min len1 len1) := by show _ = _; rw [length_ints, hPl.out]; exact (Nat.min_self _).symm
  have fD : Hid (0 + (ints .u8 D).length ≤ (List.replicate 0 (Value.int .u8 0)).length) := by show _ ≤ _; rw [length_ints, hDl.out]; simp
  have fP : Hid (0 + (ints .u8 P).length ≤ (List.replicate len1 (Value.int .u8 0)).length) := by show _ ≤ _; rw [length_ints, hPl.out]; simp
  have HD : Hid (∀ w', Below w.heap.size w w' → 0 < (ints .u8 D).length → ∃ ad, a0 = some ad ∧ ∀ j v, (ints .u8 D)[j]? = some v → w'.cell? (ad.add j) = some v) := by rw [hD]; exact fun w' hb => w0.pos hb
  have HP : Hid (∀ w', Below w.heap.size w w' → 0 < (ints .u8 P).length → ∃ ad, a1 = some ad ∧ ∀ j v, (ints .u8 P)[j]? = some v → w'.cell? (ad.add j) = some v) := by rw [hP]; exact fun w' hb => w1.pos hb
  have spD : Hid (splice (List.replicate 0 (Value.int .u8 0)) 0 (ints .u8 D) = ints .u8 D) := b_splice_all _ _ (by rw [length_ints, hDl.out]; simp)
  have spP : Hid (splice (List.replicate len1 (Value.int .u8 0)) 0 (ints .u8 P) = ints .u8 P) := b_splice_all _ _ (by rw [length_ints, hPl.out]; simp)
  have HX : Hid (∀ w', Below w.heap.size w w' → Reads w' a1 len1 P) := by rw [hP]; exact fun w' hb => reads_in w1 hb
  have HLs : Hid (∀ w' gF gD, Below w.heap.size w w' → w.heap.size ≤ gF → w.heap.size ≤ gD → LinesOk w' a1 len1 cap1 P gF gD) := by rw [hP]; exact fun w' gF gD hb h1 h2 => lines_ok w1 hb h1 h2
  have hq0 := err_eq
  clear hD hP
  go_enter Yba.func4, Yba.ntmps4
  go_wp2_with (first
    | (at_make; refine law_make rfl (.tmp 38) (.tmp 38) 24 rfl 5 i0 (.int .u8 0) 1 Yba.underlying24 hi hz0 hz1 hz2 rfl .i64 .i64 _ _ 0 0 rfl rfl rfl rfl (Nat.le_refl _) (by omega) (by unfold maxLen; omega) ?_; intro g1 v1 e1 r1 s1 q1; have B1 : Below w.heap.size w v1 := (Below.refl _ _).grown q1 (Nat.le_refl _) (fun k hk => by cases hk))
    | (with_reducible refine at_copy (.tmp 40) (.tmp 41) ?_; refine law_copy rfl (.tmp 40) (.tmp 41) 24 24 rfl 5 Yba.underlying24 size5 g1 0 _ _ _ _ _ rfl rfl (List.replicate 0 (.int .u8 0)) 5 r1 (ints .u8 D) hDm.out (HD.out _ B1) fD.out (ints_one _ _) ?_; intro v2 r2 s2 q2; rw [spD.out] at r2; have B2 : Below w.heap.size w v2 := B1.grown q2 B1.size (fun k hk => by cases hk; exact Nat.le_of_eq e1.out.symm))
    | (at_make; refine law_make rfl (.tmp 44) (.tmp 44) 24 rfl 5 i0 (.int .u8 0) 1 Yba.underlying24 hi hz0 hz1 hz2 rfl .i64 .i64 _ _ len1 len1 rfl rfl rfl rfl (Nat.le_refl _) (by omega) (by unfold maxLen; omega) ?_; intro g2 v3 e2 r3 s3 q3; have B3 : Below w.heap.size w v3 := B2.grown q3 B2.size (fun k hk => by cases hk))
    | (with_reducible refine at_copy (.tmp 46) (.tmp 47) ?_; refine law_copy rfl (.tmp 46) (.tmp 47) 24 24 rfl 5 Yba.underlying24 size5 g2 0 _ _ _ _ _ rfl rfl (List.replicate len1 (.int .u8 0)) 5 r3 (ints .u8 P) hPm.out (HP.out _ B3) fP.out (ints_one _ _) ?_; intro v4 r4 s4 q4; rw [spP.out] at r4; have B4 : Below w.heap.size w v4 := B3.grown q4 B3.size (fun k hk => by cases hk; rw [e2.out]; exact B2.size))
    | (at_make; refine law_make rfl (.tmp 50) (.tmp 50) 24 rfl 5 i0 (.int .u8 0) 1 Yba.underlying24 hi hz0 hz1 hz2 rfl .i64 .i64 _ _ 0 0 rfl rfl rfl rfl (Nat.le_refl _) (by omega) (by unfold maxLen; omega) ?_; intro g3 v5 e3 r5 s5 q5; have B5 : Below w.heap.size w v5 := B4.grown q5 B4.size (fun k hk => by cases hk))
    | (with_reducible refine at_copy (.tmp 52) (.tmp 53) ?_; refine law_copy rfl (.tmp 52) (.tmp 53) 24 24 rfl 5 Yba.underlying24 size5 g3 0 _ _ _ _ _ rfl rfl (List.replicate 0 (.int .u8 0)) 5 r5 (ints .u8 D) hDm.out (HD.out _ B5) fD.out (ints_one _ _) ?_; intro v6 r6 s6 q6; rw [spD.out] at r6; have B6 : Below w.heap.size w v6 := B5.grown q6 B5.size (fun k hk => by cases hk; rw [e3.out]; exact B4.size))
    | (go_at_call 10; refine (new_any _ _).mono ?_; rintro e w' ⟨rfl, rfl⟩)
    | fail)
  have E1 : w.heap.size ≤ g1 := Nat.le_of_eq e1.out.symm
  have E12 : g1 < g2 := by have := e1.out; have := s1.out; have := s2.out; have := e2.out; omega
  have E23 : g2 < g3 := by have := e2.out; have := s3.out; have := s4.out; have := e3.out; omega
  have E3 : g3 < v6.heap.size := by have := s5.out; have := s6.out; omega
  have ro : Row v6 g1 5 (ints .u8 D) := (((r2.grown q3 (by simp)).grown q4 (by simp; omega)).grown q5 (by simp)).grown q6 (by simp; omega)
  have rl : Row v6 g2 5 (ints .u8 P) := (r4.grown q5 (by simp)).grown q6 (by simp; omega)
  clear r1 r2 r3 r4 r5 q1 q2 q3 q4 q5 q6 e1 e2 e3 s1 s2 s3 s4 s5 s6 B1 B2 B3 B4 B5 HD HP spD spP fD fP hDm hPm
  obtain ⟨rS, rR, rW, rT, rF, G6⟩ := stageF v6 ⟨#[115, 101, 101, 107]⟩ ⟨#[114, 101, 97, 100]⟩ ⟨#[119, 114, 105, 116, 101]⟩ ⟨#[116, 114, 117, 110, 99]⟩ (fl (.slice (some ⟨g3, 0, none⟩) 0 0) 3 kn v6.heap.size (v6.heap.size + 1) (v6.heap.size + 1 + 1) (v6.heap.size + 1 + 1 + 1) 0 0 0 0 0 0 0 0 0)
  have rd := r6.grown G6 (by simp)
  have ro' := ro.grown G6 (by simp)
  have rl' := rl.grown G6 (by simp)
  have B7 := B6.grown G6 B6.size (fun k hk => by cases hk)
  have HL6 := HLs.out _ (v6.heap.size + 1 + 1 + 1 + 1) g3 B7 (by omega) (by omega)
  obtain ⟨q, hq⟩ : ∃ q, q = min kn len1 := ⟨_, rfl⟩
  refine (app_0_s3 (v6.heap.size + 1 + 1 + 1 + 1) g3 kn v6.heap.size (v6.heap.size + 1) (v6.heap.size + 1 + 1) (v6.heap.size + 1 + 1 + 1) D a1 len1 cap1 P _ (by omega) (by omega) hDl.out q hkn hq rF rd HL6).mono ?_
  rintro e v7 ⟨gJ, gL, cJ, LJ, g', c', cur', rfl, rJ7, rL7, rF7, rd7, ht7, K7, hl7⟩
  have Hq : Hid (q = min kn len1) := hq
  have hqm : q ≤ len1 := by omega
  clear hq
  have ro7 := ro'.kept K7 (by simp; omega)
  have rl7 := rl'.kept K7 (by simp; omega)
  have rW7 := rW.kept K7 (by simp; omega)
  have rT7 := rT.kept K7 (by simp; omega)
  have B8 := K7.below B7 B7.size (fun x hx => by simp at hx; omega)
  clear rS rR rW rT rF G6 rd ro' rl' B7 HL6 K7 r6 ro rl
  have HT := @id (Hid _) ht7
  clear ht7 hl7
  go_wp2_with fail
  refine (beq_same a1 (some ⟨g2, 0, none⟩) len1 cap1 len1 P _ (by omega) (HX.out _ B8) (Reads.of_row rl7 (List.take_of_length_le (by rw [length_ints, hPl.out]; omega)) hPl.out)).mono ?_
  rintro e v8 ⟨rfl, nq, rfl⟩
  have BV : Below w.heap.size w (v7.drewN nq) := B8.trans ⟨rfl, rfl, rfl, Nat.le_refl _, fun _ _ => rfl⟩
  have rF8 : Row (v7.drewN nq) (v6.heap.size + 1 + 1 + 1 + 1) 57 _ := rF7
  have ro8 : Row (v7.drewN nq) g1 5 (ints .u8 D) := ro7
  have rl8 : Row (v7.drewN nq) g2 5 (ints .u8 P) := rl7
  have rd8 : Row (v7.drewN nq) g' 5 cur' := rd7
  have rJ8 : Row (v7.drewN nq) gJ 86 _ := rJ7
  have rL8 : Row (v7.drewN nq) gL 54 _ := rL7
  have rW8 : Row (v7.drewN nq) (v6.heap.size + 1 + 1) 65 _ := rW7
  have rT8 : Row (v7.drewN nq) (v6.heap.size + 1 + 1 + 1) 65 _ := rT7
  clear rF7 ro7 rl7 rd7 rJ7 rL7 rW7 rT7 B8
  generalize v7.drewN nq = V at *
  have c0 := rF8.cell (k := 0) rfl
  have c7 := rF8.cell (k := 7) rfl
  have c8 := rF8.cell (k := 8) rfl
  have c9 := rF8.cell (k := 9) rfl
  have c10 := rF8.cell (k := 10) rfl
  have c11 := rF8.cell (k := 11) rfl
  have c12 := rF8.cell (k := 12) rfl
  have c13 := rF8.cell (k := 13) rfl
  have c14 := rF8.cell (k := 14) rfl
  have c15 := rF8.cell (k := 15) rfl
  have c3 : V.cell? ⟨v6.heap.size + 1 + 1 + 1 + 1, 3, none⟩ = some (.iface 63 (.pointer (some ⟨v6.heap.size, 0, none⟩))) := rF8.cell (k := 3) rfl
  have c4 : V.cell? ⟨v6.heap.size + 1 + 1 + 1 + 1, 4, none⟩ = some (.iface 63 (.pointer (some ⟨v6.heap.size + 1, 0, none⟩))) := rF8.cell (k := 4) rfl
  have c5 : V.cell? ⟨v6.heap.size + 1 + 1 + 1 + 1, 5, none⟩ = some (.iface 63 (.pointer (some ⟨v6.heap.size + 1 + 1, 0, none⟩))) := rF8.cell (k := 5) rfl
  have c6 : V.cell? ⟨v6.heap.size + 1 + 1 + 1 + 1, 6, none⟩ = some (.iface 63 (.pointer (some ⟨v6.heap.size + 1 + 1 + 1, 0, none⟩))) := rF8.cell (k := 6) rfl
  have HIl : Hid ((ints .u8 P).length = len1) := by show _ = _; rw [length_ints, hPl.out]
  have HDl' : Hid ((ints .u8 D).length = 0) := by show _ = _; rw [length_ints, hDl.out]
  have vF := rF8.lt
  have vo := ro8.lt
  have vl := rl8.lt
  have vd := rd8.lt
  go_wp2_with (first
    | ((with_reducible refine at_mk (.tmp 194) ?_); go_must (refine law_make rfl (.const (.int .i64 0)) (.tmp 194) 24 rfl 5 i0 (.int .u8 0) 1 Yba.underlying24 hi hz0 hz1 hz2 rfl .i64 .i64 _ _ 0 (len1 + 1) rfl rfl rfl (by omega) (Nat.zero_le _) (by omega) (by unfold maxLen; omega) ?_; intro gp u1 ep rp sp bp; have BU1 : Below V.heap.size V u1 := (Below.refl _ _).grown bp (Nat.le_refl _) (fun k hk => by cases hk); have lp : V.heap.size ≤ gp := Nat.le_of_eq ep.out.symm))
    | (at_builtin; (with_reducible refine at_app (.tmp 209) ?_); go_must (refine law_append rfl (.tmp 209) (.tmp 210) 24 rfl 5 i0 (.int .u8 0) 1 Yba.underlying24 hi hz0 hz1 hz2 rfl gp 0 (len1 + 1) (List.replicate (len1 + 1) (.int .u8 0)) rfl rp (Nat.zero_le _) (by unfold maxLen; omega) (by simp) (some ⟨g2, 0, none⟩) len1 len1 (ints .u8 P) rfl HIl.out (by simp) (rowPos (rl8.below BU1 vl)) (ints_one _ _) (by unfold maxLen; omega) (by omega) ?_; intro g3p c3p cur3p u3 r3p hn3p hc3p hl3p ht3p b3p hloc3p; have BU3 : Below V.heap.size V u3 := BU1.grown b3p BU1.size (fun k hk => by cases hk; exact lp); have l3p := locOf BU1 lp hloc3p.out; have HP3 : Hid (cur3p.take len1 = ints .u8 P) := payEq0 ht3p.out; have d0 := (BU3.cell (p := ⟨v6.heap.size + 1 + 1 + 1 + 1, 0, none⟩) vF).trans c0; have d5 := (BU3.cell (p := ⟨v6.heap.size + 1 + 1 + 1 + 1, 5, none⟩) vF).trans c5; have d6 := (BU3.cell (p := ⟨v6.heap.size + 1 + 1 + 1 + 1, 6, none⟩) vF).trans c6; have d9 := (BU3.cell (p := ⟨v6.heap.size + 1 + 1 + 1 + 1, 9, none⟩) vF).trans c9; have d10 := (BU3.cell (p := ⟨v6.heap.size + 1 + 1 + 1 + 1, 10, none⟩) vF).trans c10; have d15 := (BU3.cell (p := ⟨v6.heap.size + 1 + 1 + 1 + 1, 15, none⟩) vF).trans c15))
    | fail)
  refine (is_of_is2 gJ (v6.heap.size + 1 + 1) true _ (is2_join_first gJ gL 2 cJ (v6.heap.size + 1 + 1) (er (v6.heap.size + 1 + 1 + 1) :: LJ) _ (rJ8.below BU3 rJ8.lt) (rL8.below BU3 rL8.lt) (by omega))).mono ?_
  rintro e u9 ⟨rfl, rfl⟩
  have HQL : Hid ((ints .u8 (P.take q)).length = q) := by show _ = _; rw [length_ints]; simp; have := hPl.out; omega
  have HQT : Hid (cur3p.take q = ints .u8 (P.take q)) := takeTake HP3.out hqm
  have hq3 : q ≤ c3p := by omega
  by_cases hkm' : len1 < kn
  · have eq : q = len1 := by have := Hq.out; omega
    have Heq : Hid (len1 = q) := eq.symm
    clear eq
    rw [Heq.out] at *
    go_wp2_with (first
      | ((with_reducible refine at_mk (.tmp 273) ?_); go_must (refine law_make rfl (.const (.int .i64 0)) (.tmp 273) 24 rfl 5 i0 (.int .u8 0) 1 Yba.underlying24 hi hz0 hz1 hz2 rfl .i64 .i64 _ _ 0 (q) rfl rfl rfl (by omega) (Nat.zero_le _) (by omega) (by unfold maxLen; omega) ?_; intro gw u4 ew rw4 sw bw; have BU4 : Below V.heap.size V u4 := BU3.grown bw BU3.size (fun k hk => by cases hk); have lw : V.heap.size ≤ gw := (by rw [ew.out]; exact BU3.size); have r3p4 := r3p.grown bw (by simp)))
      | (at_builtin; (with_reducible refine at_app (.tmp 275) ?_); go_must (refine law_append rfl (.tmp 275) (.tmp 276) 24 rfl 5 i0 (.int .u8 0) 1 Yba.underlying24 hi hz0 hz1 hz2 rfl gw 0 (q) (List.replicate (q) (.int .u8 0)) rfl rw4 (Nat.zero_le _) (by unfold maxLen; omega) (by simp) (some ⟨g1, 0, none⟩) 0 0 (ints .u8 D) rfl HDl'.out (by simp) (rowPos (ro8.below BU4 vo)) (ints_one _ _) (by unfold maxLen; omega) (by omega) ?_; intro g5 k5 cur5 u5 r5w hn5 hc5 hl5 ht5 b5 hloc5; have BU5 : Below V.heap.size V u5 := BU4.grown b5 BU4.size (fun k hk => by cases hk; exact lw); have l5 := locOf BU4 lw hloc5.out; have r3p5 := r3p4.grown b5 (by simp; have := r3p.lt; have := ew.out; omega); skip))
      | (at_builtin; (with_reducible refine at_app (.tmp 278) ?_); go_must (refine law_append rfl (.tmp 278) (.tmp 281) 24 rfl 5 i0 (.int .u8 0) 1 Yba.underlying24 hi hz0 hz1 hz2 rfl g5 0 k5 cur5 rfl r5w (by omega) hc5.out hl5.out (some ⟨g3p, 0, none⟩) q c3p (ints .u8 (P.take q)) rfl HQL.out (by simp) (takePos r3p5 HQT.out) (ints_one _ _) (by unfold maxLen; omega) (by omega) ?_; intro g6 k6 cur6 u6 r6w hn6 hc6 hl6 ht6 b6 hloc6; have BU6 : Below V.heap.size V u6 := BU5.grown b6 BU5.size (fun k hk => by cases hk; exact l5); have f0 := (BU6.cell (p := ⟨v6.heap.size + 1 + 1 + 1 + 1, 0, none⟩) vF).trans c0; have f6 := (BU6.cell (p := ⟨v6.heap.size + 1 + 1 + 1 + 1, 6, none⟩) vF).trans c6))
      | fail)
    refine (is_of_is2 gJ (v6.heap.size + 1 + 1 + 1) true _ (is2_join_second gJ gL 2 cJ (v6.heap.size + 1 + 1) (v6.heap.size + 1 + 1 + 1) LJ _ (rJ8.below BU6 rJ8.lt) (rL8.below BU6 rL8.lt) (by omega) (by omega) _ _ (rW8.below BU6 rW8.lt) (rT8.below BU6 rT8.lt))).mono ?_
    rintro e u7 ⟨rfl, rfl⟩
    go_wp2_with fail
    refine (beq_same (some ⟨g', 0, none⟩) (some ⟨g6, 0, none⟩) (q) _ _ (D ++ P.take q) _ (by omega) (Reads.of_row (rd8.below BU6 vd) (by simpa using HT.out) (by simp; have := hDl.out; have := hPl.out; omega)) (Reads.of_row r6w (by simpa using wantEq hDl.out ht5.out ht6.out) (by simp; have := hDl.out; have := hPl.out; omega))).mono ?_
    rintro e v9 ⟨rfl, nr, rfl⟩
    go_wp2
    go_ret
    exact ⟨rfl, (BV.trans (BU6.mono BV.size)).trans ⟨rfl, rfl, rfl, Nat.le_refl _, fun _ _ => rfl⟩⟩
  · have eq : q = kn := by have := Hq.out; omega
    have Heq : Hid (kn = q) := eq.symm
    clear eq
    rw [Heq.out] at *
    go_wp2_with (first
      | ((with_reducible refine at_mk (.tmp 273) ?_); go_must (refine law_make rfl (.const (.int .i64 0)) (.tmp 273) 24 rfl 5 i0 (.int .u8 0) 1 Yba.underlying24 hi hz0 hz1 hz2 rfl .i64 .i64 _ _ 0 (q) rfl rfl rfl (by omega) (Nat.zero_le _) (by omega) (by unfold maxLen; omega) ?_; intro gw u4 ew rw4 sw bw; have BU4 : Below V.heap.size V u4 := BU3.grown bw BU3.size (fun k hk => by cases hk); have lw : V.heap.size ≤ gw := (by rw [ew.out]; exact BU3.size); have r3p4 := r3p.grown bw (by simp)))
      | (at_builtin; (with_reducible refine at_app (.tmp 275) ?_); go_must (refine law_append rfl (.tmp 275) (.tmp 276) 24 rfl 5 i0 (.int .u8 0) 1 Yba.underlying24 hi hz0 hz1 hz2 rfl gw 0 (q) (List.replicate (q) (.int .u8 0)) rfl rw4 (Nat.zero_le _) (by unfold maxLen; omega) (by simp) (some ⟨g1, 0, none⟩) 0 0 (ints .u8 D) rfl HDl'.out (by simp) (rowPos (ro8.below BU4 vo)) (ints_one _ _) (by unfold maxLen; omega) (by omega) ?_; intro g5 k5 cur5 u5 r5w hn5 hc5 hl5 ht5 b5 hloc5; have BU5 : Below V.heap.size V u5 := BU4.grown b5 BU4.size (fun k hk => by cases hk; exact lw); have l5 := locOf BU4 lw hloc5.out; have r3p5 := r3p4.grown b5 (by simp; have := r3p.lt; have := ew.out; omega); skip))
      | (at_builtin; (with_reducible refine at_app (.tmp 278) ?_); go_must (refine law_append rfl (.tmp 278) (.tmp 281) 24 rfl 5 i0 (.int .u8 0) 1 Yba.underlying24 hi hz0 hz1 hz2 rfl g5 0 k5 cur5 rfl r5w (by omega) hc5.out hl5.out (some ⟨g3p, 0, none⟩) q c3p (ints .u8 (P.take q)) rfl HQL.out (by simp) (takePos r3p5 HQT.out) (ints_one _ _) (by unfold maxLen; omega) (by omega) ?_; intro g6 k6 cur6 u6 r6w hn6 hc6 hl6 ht6 b6 hloc6; have BU6 : Below V.heap.size V u6 := BU5.grown b6 BU5.size (fun k hk => by cases hk; exact l5); have f0 := (BU6.cell (p := ⟨v6.heap.size + 1 + 1 + 1 + 1, 0, none⟩) vF).trans c0; have f6 := (BU6.cell (p := ⟨v6.heap.size + 1 + 1 + 1 + 1, 6, none⟩) vF).trans c6))
      | fail)
    refine (is_of_is2 gJ (v6.heap.size + 1 + 1 + 1) true _ (is2_join_second gJ gL 2 cJ (v6.heap.size + 1 + 1) (v6.heap.size + 1 + 1 + 1) LJ _ (rJ8.below BU6 rJ8.lt) (rL8.below BU6 rL8.lt) (by omega) (by omega) _ _ (rW8.below BU6 rW8.lt) (rT8.below BU6 rT8.lt))).mono ?_
    rintro e u7 ⟨rfl, rfl⟩
    go_wp2_with fail
    refine (beq_same (some ⟨g', 0, none⟩) (some ⟨g6, 0, none⟩) (q) _ _ (D ++ P.take q) _ (by omega) (Reads.of_row (rd8.below BU6 vd) (by simpa using HT.out) (by simp; have := hDl.out; have := hPl.out; omega)) (Reads.of_row r6w (by simpa using wantEq hDl.out ht5.out ht6.out) (by simp; have := hDl.out; have := hPl.out; omega))).mono ?_
    rintro e v9 ⟨rfl, nr, rfl⟩
    go_wp2
    go_ret
    exact ⟨rfl, (BV.trans (BU6.mono BV.size)).trans ⟨rfl, rfl, rfl, Nat.le_refl _, fun _ _ => rfl⟩⟩

set_option maxHeartbeats 4000000 in
set_option maxRecDepth 100000 in
theorem law_1_s3 (a0 : Option Addr) (len0 : Nat) (cap0 : Nat) (z0 : List Int) (a1 : Option Addr) (len1 cap1 : Nat) (z1 : List Int) (a2 : Int) (a3 : Int) (w : World) (w0 : IsRow .u8 w a0 len0 cap0 z0) (w1 : IsRow .u8 w a1 len1 cap1 z1) (b2 : 0 ≤ a2 ∧ a2 ≤ 255) (b3 : 0 ≤ a3 ∧ a3 ≤ 4294967295) (hsum : len0 + len1 ≤ 1048576) (hc : a2 % 8 = 3) (kn : Nat) (hkn : kn ≤ 1048577) (hkm : a3 % ((len1 : Int) + 2) = (kn : Int)) (h0 : 0 < len0) (b : Int) (hlast : (z0.take len0).getD (len0 - 1) 0 = b) (hb : (b != 10) = false) :
    Calls Yba.prog 4 #[.slice a0 len0 cap0, .slice a1 len1 cap1, .int .u8 a2, .int .u32 a3] w fun e w' => e = .returned (.bool true) ∧ Below w.heap.size w w' := by
  obtain ⟨i0, hi, hz0, hz1, hz2⟩ := info_parts info5
  obtain ⟨D, hD⟩ : ∃ D, D = z0.take len0 := ⟨_, rfl⟩
  obtain ⟨P, hP⟩ : ∃ P, P = z1.take len1 := ⟨_, rfl⟩
  have hDl : Hid (D.length = len0) := by rw [hD]; exact w0.lenEq
  have hPl : Hid (P.length = len1) := by rw [hP]; exact w1.lenEq
  have hDm : Hid ((ints .u8 D).length = Nat.min len0 len0) := by show _ = _; rw [length_ints, hDl.out]; exact (Nat.min_self _).symm
  have hPm : Hid ((ints .u8 P).length = Nat.min len1 len1) := by show _ = _; rw [length_ints, hPl.out]; exact (Nat.min_self _).symm
  have fD : Hid (0 + (ints .u8 D).length ≤ (List.replicate len0 (Value.int .u8 0)).length) := by show _ ≤ _; rw [length_ints, hDl.out]; simp
  have fP : Hid (0 + (ints .u8 P).length ≤ (List.replicate len1 (Value.int .u8 0)).length) := by show _ ≤ _; rw [length_ints, hPl.out]; simp
  have HD : Hid (∀ w', Below w.heap.size w w' → 0 < (ints .u8 D).length → ∃ ad, a0 = some ad ∧ ∀ j v, (ints .u8 D)[j]? = some v → w'.cell? (ad.add j) = some v) := by rw [hD]; exact fun w' hb => w0.pos hb
  have HP : Hid (∀ w', Below w.heap.size w w' → 0 < (ints .u8 P).length → ∃ ad, a1 = some ad ∧ ∀ j v, (ints .u8 P)[j]? = some v → w'.cell? (ad.add j) = some v) := by rw [hP]; exact fun w' hb => w1.pos hb
  have spD : Hid (splice (List.replicate len0 (Value.int .u8 0)) 0 (ints .u8 D) = ints .u8 D) := b_splice_all _ _ (by rw [length_ints, hDl.out]; simp)
  have spP : Hid (splice (List.replicate len1 (Value.int .u8 0)) 0 (ints .u8 P) = ints .u8 P) := b_splice_all _ _ (by rw [length_ints, hPl.out]; simp)
  have HX : Hid (∀ w', Below w.heap.size w w' → Reads w' a1 len1 P) := by rw [hP]; exact fun w' hb => reads_in w1 hb
  have HLs : Hid (∀ w' gF gD, Below w.heap.size w w' → w.heap.size ≤ gF → w.heap.size ≤ gD → LinesOk w' a1 len1 cap1 P gF gD) := by rw [hP]; exact fun w' gF gD hb h1 h2 => lines_ok w1 hb h1 h2
  have Hlast : Hid (D.getD (len0 - 1) 0 = b) := by rw [hD]; exact hlast
  clear hlast
  have hq0 := err_eq
  clear hD hP
  go_enter Yba.func4, Yba.ntmps4
  go_wp2_with (first
    | (at_make; refine law_make rfl (.tmp 38) (.tmp 38) 24 rfl 5 i0 (.int .u8 0) 1 Yba.underlying24 hi hz0 hz1 hz2 rfl .i64 .i64 _ _ len0 len0 rfl rfl rfl rfl (Nat.le_refl _) (by omega) (by unfold maxLen; omega) ?_; intro g1 v1 e1 r1 s1 q1; have B1 : Below w.heap.size w v1 := (Below.refl _ _).grown q1 (Nat.le_refl _) (fun k hk => by cases hk))
    | (with_reducible refine at_copy (.tmp 40) (.tmp 41) ?_; refine law_copy rfl (.tmp 40) (.tmp 41) 24 24 rfl 5 Yba.underlying24 size5 g1 0 _ _ _ _ _ rfl rfl (List.replicate len0 (.int .u8 0)) 5 r1 (ints .u8 D) hDm.out (HD.out _ B1) fD.out (ints_one _ _) ?_; intro v2 r2 s2 q2; rw [spD.out] at r2; have B2 : Below w.heap.size w v2 := B1.grown q2 B1.size (fun k hk => by cases hk; exact Nat.le_of_eq e1.out.symm))
    | (at_make; refine law_make rfl (.tmp 44) (.tmp 44) 24 rfl 5 i0 (.int .u8 0) 1 Yba.underlying24 hi hz0 hz1 hz2 rfl .i64 .i64 _ _ len1 len1 rfl rfl rfl rfl (Nat.le_refl _) (by omega) (by unfold maxLen; omega) ?_; intro g2 v3 e2 r3 s3 q3; have B3 : Below w.heap.size w v3 := B2.grown q3 B2.size (fun k hk => by cases hk))
    | (with_reducible refine at_copy (.tmp 46) (.tmp 47) ?_; refine law_copy rfl (.tmp 46) (.tmp 47) 24 24 rfl 5 Yba.underlying24 size5 g2 0 _ _ _ _ _ rfl rfl (List.replicate len1 (.int .u8 0)) 5 r3 (ints .u8 P) hPm.out (HP.out _ B3) fP.out (ints_one _ _) ?_; intro v4 r4 s4 q4; rw [spP.out] at r4; have B4 : Below w.heap.size w v4 := B3.grown q4 B3.size (fun k hk => by cases hk; rw [e2.out]; exact B2.size))
    | (at_make; refine law_make rfl (.tmp 50) (.tmp 50) 24 rfl 5 i0 (.int .u8 0) 1 Yba.underlying24 hi hz0 hz1 hz2 rfl .i64 .i64 _ _ len0 len0 rfl rfl rfl rfl (Nat.le_refl _) (by omega) (by unfold maxLen; omega) ?_; intro g3 v5 e3 r5 s5 q5; have B5 : Below w.heap.size w v5 := B4.grown q5 B4.size (fun k hk => by cases hk))
    | (with_reducible refine at_copy (.tmp 52) (.tmp 53) ?_; refine law_copy rfl (.tmp 52) (.tmp 53) 24 24 rfl 5 Yba.underlying24 size5 g3 0 _ _ _ _ _ rfl rfl (List.replicate len0 (.int .u8 0)) 5 r5 (ints .u8 D) hDm.out (HD.out _ B5) fD.out (ints_one _ _) ?_; intro v6 r6 s6 q6; rw [spD.out] at r6; have B6 : Below w.heap.size w v6 := B5.grown q6 B5.size (fun k hk => by cases hk; rw [e3.out]; exact B4.size))
    | (go_at_call 10; refine (new_any _ _).mono ?_; rintro e w' ⟨rfl, rfl⟩)
    | fail)
  have E1 : w.heap.size ≤ g1 := Nat.le_of_eq e1.out.symm
  have E12 : g1 < g2 := by have := e1.out; have := s1.out; have := s2.out; have := e2.out; omega
  have E23 : g2 < g3 := by have := e2.out; have := s3.out; have := s4.out; have := e3.out; omega
  have E3 : g3 < v6.heap.size := by have := s5.out; have := s6.out; omega
  have ro : Row v6 g1 5 (ints .u8 D) := (((r2.grown q3 (by simp)).grown q4 (by simp; omega)).grown q5 (by simp)).grown q6 (by simp; omega)
  have rl : Row v6 g2 5 (ints .u8 P) := (r4.grown q5 (by simp)).grown q6 (by simp; omega)
  clear r1 r2 r3 r4 r5 q1 q2 q3 q4 q5 q6 e1 e2 e3 s1 s2 s3 s4 s5 s6 B1 B2 B3 B4 B5 HD HP spD spP fD fP hDm hPm
  obtain ⟨rS, rR, rW, rT, rF, G6⟩ := stageF v6 ⟨#[115, 101, 101, 107]⟩ ⟨#[114, 101, 97, 100]⟩ ⟨#[119, 114, 105, 116, 101]⟩ ⟨#[116, 114, 117, 110, 99]⟩ (fl (.slice (some ⟨g3, 0, none⟩) len0 len0) 3 kn v6.heap.size (v6.heap.size + 1) (v6.heap.size + 1 + 1) (v6.heap.size + 1 + 1 + 1) 0 0 0 0 0 0 0 0 0)
  have rd := r6.grown G6 (by simp)
  have ro' := ro.grown G6 (by simp)
  have rl' := rl.grown G6 (by simp)
  have B7 := B6.grown G6 B6.size (fun k hk => by cases hk)
  have HL6 := HLs.out _ (v6.heap.size + 1 + 1 + 1 + 1) g3 B7 (by omega) (by omega)
  obtain ⟨q, hq⟩ : ∃ q, q = min kn len1 := ⟨_, rfl⟩
  refine (app_1_s3 (v6.heap.size + 1 + 1 + 1 + 1) g3 len0 kn v6.heap.size (v6.heap.size + 1) (v6.heap.size + 1 + 1) (v6.heap.size + 1 + 1 + 1) D a1 len1 cap1 P _ (by omega) (by omega) hDl.out h0 b Hlast.out hb q hkn hq rF rd HL6).mono ?_
  rintro e v7 ⟨gJ, gL, cJ, LJ, g', c', cur', rfl, rJ7, rL7, rF7, rd7, ht7, K7, hl7⟩
  have Hq : Hid (q = min kn len1) := hq
  have hqm : q ≤ len1 := by omega
  clear hq
  have ro7 := ro'.kept K7 (by simp; omega)
  have rl7 := rl'.kept K7 (by simp; omega)
  have rW7 := rW.kept K7 (by simp; omega)
  have rT7 := rT.kept K7 (by simp; omega)
  have B8 := K7.below B7 B7.size (fun x hx => by simp at hx; omega)
  clear rS rR rW rT rF G6 rd ro' rl' B7 HL6 K7 r6 ro rl
  have HT := @id (Hid _) ht7
  clear ht7 hl7
  go_wp2_with fail
  refine (beq_same a1 (some ⟨g2, 0, none⟩) len1 cap1 len1 P _ (by omega) (HX.out _ B8) (Reads.of_row rl7 (List.take_of_length_le (by rw [length_ints, hPl.out]; omega)) hPl.out)).mono ?_
  rintro e v8 ⟨rfl, nq, rfl⟩
  have BV : Below w.heap.size w (v7.drewN nq) := B8.trans ⟨rfl, rfl, rfl, Nat.le_refl _, fun _ _ => rfl⟩
  have rF8 : Row (v7.drewN nq) (v6.heap.size + 1 + 1 + 1 + 1) 57 _ := rF7
  have ro8 : Row (v7.drewN nq) g1 5 (ints .u8 D) := ro7
  have rl8 : Row (v7.drewN nq) g2 5 (ints .u8 P) := rl7
  have rd8 : Row (v7.drewN nq) g' 5 cur' := rd7
  have rJ8 : Row (v7.drewN nq) gJ 86 _ := rJ7
  have rL8 : Row (v7.drewN nq) gL 54 _ := rL7
  have rW8 : Row (v7.drewN nq) (v6.heap.size + 1 + 1) 65 _ := rW7
  have rT8 : Row (v7.drewN nq) (v6.heap.size + 1 + 1 + 1) 65 _ := rT7
  clear rF7 ro7 rl7 rd7 rJ7 rL7 rW7 rT7 B8
  generalize v7.drewN nq = V at *
  have c0 := rF8.cell (k := 0) rfl
  have c7 := rF8.cell (k := 7) rfl
  have c8 := rF8.cell (k := 8) rfl
  have c9 := rF8.cell (k := 9) rfl
  have c10 := rF8.cell (k := 10) rfl
  have c11 := rF8.cell (k := 11) rfl
  have c12 := rF8.cell (k := 12) rfl
  have c13 := rF8.cell (k := 13) rfl
  have c14 := rF8.cell (k := 14) rfl
  have c15 := rF8.cell (k := 15) rfl
  have c3 : V.cell? ⟨v6.heap.size + 1 + 1 + 1 + 1, 3, none⟩ = some (.iface 63 (.pointer (some ⟨v6.heap.size, 0, none⟩))) := rF8.cell (k := 3) rfl
  have c4 : V.cell? ⟨v6.heap.size + 1 + 1 + 1 + 1, 4, none⟩ = some (.iface 63 (.pointer (some ⟨v6.heap.size + 1, 0, none⟩))) := rF8.cell (k := 4) rfl
  have c5 : V.cell? ⟨v6.heap.size + 1 + 1 + 1 + 1, 5, none⟩ = some (.iface 63 (.pointer (some ⟨v6.heap.size + 1 + 1, 0, none⟩))) := rF8.cell (k := 5) rfl
  have c6 : V.cell? ⟨v6.heap.size + 1 + 1 + 1 + 1, 6, none⟩ = some (.iface 63 (.pointer (some ⟨v6.heap.size + 1 + 1 + 1, 0, none⟩))) := rF8.cell (k := 6) rfl
  have hlo : V.cell? ⟨g1, len0 - 1, none⟩ = some (.int .u8 b) := ro8.cell (by rw [Rk.ints_at _ _ _ (by have := hDl.out; omega), Hlast.out])
  have HIl : Hid ((ints .u8 P).length = len1) := by show _ = _; rw [length_ints, hPl.out]
  have HDl' : Hid ((ints .u8 D).length = len0) := by show _ = _; rw [length_ints, hDl.out]
  have vF := rF8.lt
  have vo := ro8.lt
  have vl := rl8.lt
  have vd := rd8.lt
  go_wp2_with (first
    | ((with_reducible refine at_mk (.tmp 194) ?_); go_must (refine law_make rfl (.const (.int .i64 0)) (.tmp 194) 24 rfl 5 i0 (.int .u8 0) 1 Yba.underlying24 hi hz0 hz1 hz2 rfl .i64 .i64 _ _ 0 (len1 + 1) rfl rfl rfl (by omega) (Nat.zero_le _) (by omega) (by unfold maxLen; omega) ?_; intro gp u1 ep rp sp bp; have BU1 : Below V.heap.size V u1 := (Below.refl _ _).grown bp (Nat.le_refl _) (fun k hk => by cases hk); have lp : V.heap.size ≤ gp := Nat.le_of_eq ep.out.symm; have hlo1 : u1.cell? ⟨g1, len0 - 1, none⟩ = some (.int .u8 b) := (BU1.cell vo).trans hlo))
    | (at_builtin; (with_reducible refine at_app (.tmp 209) ?_); go_must (refine law_append rfl (.tmp 209) (.tmp 210) 24 rfl 5 i0 (.int .u8 0) 1 Yba.underlying24 hi hz0 hz1 hz2 rfl gp 0 (len1 + 1) (List.replicate (len1 + 1) (.int .u8 0)) rfl rp (Nat.zero_le _) (by unfold maxLen; omega) (by simp) (some ⟨g2, 0, none⟩) len1 len1 (ints .u8 P) rfl HIl.out (by simp) (rowPos (rl8.below BU1 vl)) (ints_one _ _) (by unfold maxLen; omega) (by omega) ?_; intro g3p c3p cur3p u3 r3p hn3p hc3p hl3p ht3p b3p hloc3p; have BU3 : Below V.heap.size V u3 := BU1.grown b3p BU1.size (fun k hk => by cases hk; exact lp); have l3p := locOf BU1 lp hloc3p.out; have HP3 : Hid (cur3p.take len1 = ints .u8 P) := payEq0 ht3p.out; have d0 := (BU3.cell (p := ⟨v6.heap.size + 1 + 1 + 1 + 1, 0, none⟩) vF).trans c0; have d5 := (BU3.cell (p := ⟨v6.heap.size + 1 + 1 + 1 + 1, 5, none⟩) vF).trans c5; have d6 := (BU3.cell (p := ⟨v6.heap.size + 1 + 1 + 1 + 1, 6, none⟩) vF).trans c6; have d9 := (BU3.cell (p := ⟨v6.heap.size + 1 + 1 + 1 + 1, 9, none⟩) vF).trans c9; have d10 := (BU3.cell (p := ⟨v6.heap.size + 1 + 1 + 1 + 1, 10, none⟩) vF).trans c10; have d15 := (BU3.cell (p := ⟨v6.heap.size + 1 + 1 + 1 + 1, 15, none⟩) vF).trans c15))
    | fail)
  refine (is_of_is2 gJ (v6.heap.size + 1 + 1) true _ (is2_join_first gJ gL 2 cJ (v6.heap.size + 1 + 1) (er (v6.heap.size + 1 + 1 + 1) :: LJ) _ (rJ8.below BU3 rJ8.lt) (rL8.below BU3 rL8.lt) (by omega))).mono ?_
  rintro e u9 ⟨rfl, rfl⟩
  have HQL : Hid ((ints .u8 (P.take q)).length = q) := by show _ = _; rw [length_ints]; simp; have := hPl.out; omega
  have HQT : Hid (cur3p.take q = ints .u8 (P.take q)) := takeTake HP3.out hqm
  have hq3 : q ≤ c3p := by omega
  by_cases hkm' : len1 < kn
  · have eq : q = len1 := by have := Hq.out; omega
    have Heq : Hid (len1 = q) := eq.symm
    clear eq
    rw [Heq.out] at *
    go_wp2_with (first
      | ((with_reducible refine at_mk (.tmp 273) ?_); go_must (refine law_make rfl (.const (.int .i64 0)) (.tmp 273) 24 rfl 5 i0 (.int .u8 0) 1 Yba.underlying24 hi hz0 hz1 hz2 rfl .i64 .i64 _ _ 0 (len0 + q) rfl rfl rfl (by omega) (Nat.zero_le _) (by omega) (by unfold maxLen; omega) ?_; intro gw u4 ew rw4 sw bw; have BU4 : Below V.heap.size V u4 := BU3.grown bw BU3.size (fun k hk => by cases hk); have lw : V.heap.size ≤ gw := (by rw [ew.out]; exact BU3.size); have r3p4 := r3p.grown bw (by simp)))
      | (at_builtin; (with_reducible refine at_app (.tmp 275) ?_); go_must (refine law_append rfl (.tmp 275) (.tmp 276) 24 rfl 5 i0 (.int .u8 0) 1 Yba.underlying24 hi hz0 hz1 hz2 rfl gw 0 (len0 + q) (List.replicate (len0 + q) (.int .u8 0)) rfl rw4 (Nat.zero_le _) (by unfold maxLen; omega) (by simp) (some ⟨g1, 0, none⟩) len0 len0 (ints .u8 D) rfl HDl'.out (by simp) (rowPos (ro8.below BU4 vo)) (ints_one _ _) (by unfold maxLen; omega) (by omega) ?_; intro g5 k5 cur5 u5 r5w hn5 hc5 hl5 ht5 b5 hloc5; have BU5 : Below V.heap.size V u5 := BU4.grown b5 BU4.size (fun k hk => by cases hk; exact lw); have l5 := locOf BU4 lw hloc5.out; have r3p5 := r3p4.grown b5 (by simp; have := r3p.lt; have := ew.out; omega); skip))
      | (at_builtin; (with_reducible refine at_app (.tmp 278) ?_); go_must (refine law_append rfl (.tmp 278) (.tmp 281) 24 rfl 5 i0 (.int .u8 0) 1 Yba.underlying24 hi hz0 hz1 hz2 rfl g5 len0 k5 cur5 rfl r5w (by omega) hc5.out hl5.out (some ⟨g3p, 0, none⟩) q c3p (ints .u8 (P.take q)) rfl HQL.out (by simp) (takePos r3p5 HQT.out) (ints_one _ _) (by unfold maxLen; omega) (by omega) ?_; intro g6 k6 cur6 u6 r6w hn6 hc6 hl6 ht6 b6 hloc6; have BU6 : Below V.heap.size V u6 := BU5.grown b6 BU5.size (fun k hk => by cases hk; exact l5); have f0 := (BU6.cell (p := ⟨v6.heap.size + 1 + 1 + 1 + 1, 0, none⟩) vF).trans c0; have f6 := (BU6.cell (p := ⟨v6.heap.size + 1 + 1 + 1 + 1, 6, none⟩) vF).trans c6))
      | fail)
    refine (is_of_is2 gJ (v6.heap.size + 1 + 1 + 1) true _ (is2_join_second gJ gL 2 cJ (v6.heap.size + 1 + 1) (v6.heap.size + 1 + 1 + 1) LJ _ (rJ8.below BU6 rJ8.lt) (rL8.below BU6 rL8.lt) (by omega) (by omega) _ _ (rW8.below BU6 rW8.lt) (rT8.below BU6 rT8.lt))).mono ?_
    rintro e u7 ⟨rfl, rfl⟩
    go_wp2_with fail
    refine (beq_same (some ⟨g', 0, none⟩) (some ⟨g6, 0, none⟩) (len0 + q) _ _ (D ++ P.take q) _ (by omega) (Reads.of_row (rd8.below BU6 vd) HT.out (by simp; have := hDl.out; have := hPl.out; omega)) (Reads.of_row r6w (wantEq hDl.out ht5.out ht6.out) (by simp; have := hDl.out; have := hPl.out; omega))).mono ?_
    rintro e v9 ⟨rfl, nr, rfl⟩
    go_wp2
    go_ret
    exact ⟨rfl, (BV.trans (BU6.mono BV.size)).trans ⟨rfl, rfl, rfl, Nat.le_refl _, fun _ _ => rfl⟩⟩
  · have eq : q = kn := by have := Hq.out; omega
    have Heq : Hid (kn = q) := eq.symm
    clear eq
    rw [Heq.out] at *
    go_wp2_with (first
      | ((with_reducible refine at_mk (.tmp 273) ?_); go_must (refine law_make rfl (.const (.int .i64 0)) (.tmp 273) 24 rfl 5 i0 (.int .u8 0) 1 Yba.underlying24 hi hz0 hz1 hz2 rfl .i64 .i64 _ _ 0 (len0 + q) rfl rfl rfl (by omega) (Nat.zero_le _) (by omega) (by unfold maxLen; omega) ?_; intro gw u4 ew rw4 sw bw; have BU4 : Below V.heap.size V u4 := BU3.grown bw BU3.size (fun k hk => by cases hk); have lw : V.heap.size ≤ gw := (by rw [ew.out]; exact BU3.size); have r3p4 := r3p.grown bw (by simp)))
      | (at_builtin; (with_reducible refine at_app (.tmp 275) ?_); go_must (refine law_append rfl (.tmp 275) (.tmp 276) 24 rfl 5 i0 (.int .u8 0) 1 Yba.underlying24 hi hz0 hz1 hz2 rfl gw 0 (len0 + q) (List.replicate (len0 + q) (.int .u8 0)) rfl rw4 (Nat.zero_le _) (by unfold maxLen; omega) (by simp) (some ⟨g1, 0, none⟩) len0 len0 (ints .u8 D) rfl HDl'.out (by simp) (rowPos (ro8.below BU4 vo)) (ints_one _ _) (by unfold maxLen; omega) (by omega) ?_; intro g5 k5 cur5 u5 r5w hn5 hc5 hl5 ht5 b5 hloc5; have BU5 : Below V.heap.size V u5 := BU4.grown b5 BU4.size (fun k hk => by cases hk; exact lw); have l5 := locOf BU4 lw hloc5.out; have r3p5 := r3p4.grown b5 (by simp; have := r3p.lt; have := ew.out; omega); skip))
      | (at_builtin; (with_reducible refine at_app (.tmp 278) ?_); go_must (refine law_append rfl (.tmp 278) (.tmp 281) 24 rfl 5 i0 (.int .u8 0) 1 Yba.underlying24 hi hz0 hz1 hz2 rfl g5 len0 k5 cur5 rfl r5w (by omega) hc5.out hl5.out (some ⟨g3p, 0, none⟩) q c3p (ints .u8 (P.take q)) rfl HQL.out (by simp) (takePos r3p5 HQT.out) (ints_one _ _) (by unfold maxLen; omega) (by omega) ?_; intro g6 k6 cur6 u6 r6w hn6 hc6 hl6 ht6 b6 hloc6; have BU6 : Below V.heap.size V u6 := BU5.grown b6 BU5.size (fun k hk => by cases hk; exact l5); have f0 := (BU6.cell (p := ⟨v6.heap.size + 1 + 1 + 1 + 1, 0, none⟩) vF).trans c0; have f6 := (BU6.cell (p := ⟨v6.heap.size + 1 + 1 + 1 + 1, 6, none⟩) vF).trans c6))
      | fail)
    refine (is_of_is2 gJ (v6.heap.size + 1 + 1 + 1) true _ (is2_join_second gJ gL 2 cJ (v6.heap.size + 1 + 1) (v6.heap.size + 1 + 1 + 1) LJ _ (rJ8.below BU6 rJ8.lt) (rL8.below BU6 rL8.lt) (by omega) (by omega) _ _ (rW8.below BU6 rW8.lt) (rT8.below BU6 rT8.lt))).mono ?_
    rintro e u7 ⟨rfl, rfl⟩
    go_wp2_with fail
    refine (beq_same (some ⟨g', 0, none⟩) (some ⟨g6, 0, none⟩) (len0 + q) _ _ (D ++ P.take q) _ (by omega) (Reads.of_row (rd8.below BU6 vd) HT.out (by simp; have := hDl.out; have := hPl.out; omega)) (Reads.of_row r6w (wantEq hDl.out ht5.out ht6.out) (by simp; have := hDl.out; have := hPl.out; omega))).mono ?_
    rintro e v9 ⟨rfl, nr, rfl⟩
    go_wp2
    go_ret
    exact ⟨rfl, (BV.trans (BU6.mono BV.size)).trans ⟨rfl, rfl, rfl, Nat.le_refl _, fun _ _ => rfl⟩⟩

set_option maxHeartbeats 4000000 in
set_option maxRecDepth 100000 in
theorem law_2_s3 (a0 : Option Addr) (len0 : Nat) (cap0 : Nat) (z0 : List Int) (a1 : Option Addr) (len1 cap1 : Nat) (z1 : List Int) (a2 : Int) (a3 : Int) (w : World) (w0 : IsRow .u8 w a0 len0 cap0 z0) (w1 : IsRow .u8 w a1 len1 cap1 z1) (b2 : 0 ≤ a2 ∧ a2 ≤ 255) (b3 : 0 ≤ a3 ∧ a3 ≤ 4294967295) (hsum : len0 + len1 ≤ 1048576) (hc : a2 % 8 = 3) (kn : Nat) (hkn : kn ≤ 1048577) (hkm : a3 % ((len1 : Int) + 2) = (kn : Int)) (h0 : 0 < len0) (b : Int) (hlast : (z0.take len0).getD (len0 - 1) 0 = b) (hb : (b != 10) = true) :
    Calls Yba.prog 4 #[.slice a0 len0 cap0, .slice a1 len1 cap1, .int .u8 a2, .int .u32 a3] w fun e w' => e = .returned (.bool true) ∧ Below w.heap.size w w' := by
  obtain ⟨i0, hi, hz0, hz1, hz2⟩ := info_parts info5
  obtain ⟨D, hD⟩ : ∃ D, D = z0.take len0 := ⟨_, rfl⟩
  obtain ⟨P, hP⟩ : ∃ P, P = z1.take len1 := ⟨_, rfl⟩
  have hDl : Hid (D.length = len0) := by rw [hD]; exact w0.lenEq
  have hPl : Hid (P.length = len1) := by rw [hP]; exact w1.lenEq
  have hDm : Hid ((ints .u8 D).length = Nat.min len0 len0) := by show _ = _; rw [length_ints, hDl.out]; exact (Nat.min_self _).symm
  have hPm : Hid ((ints .u8 P).length = Nat.min len1 len1) := by show _ = _; rw [length_ints, hPl.out]; exact (Nat.min_self _).symm
  have fD : Hid (0 + (ints .u8 D).length ≤ (List.replicate len0 (Value.int .u8 0)).length) := by show _ ≤ _; rw [length_ints, hDl.out]; simp
  have fP : Hid (0 + (ints .u8 P).length ≤ (List.replicate len1 (Value.int .u8 0)).length) := by show _ ≤ _; rw [length_ints, hPl.out]; simp
  have HD : Hid (∀ w', Below w.heap.size w w' → 0 < (ints .u8 D).length → ∃ ad, a0 = some ad ∧ ∀ j v, (ints .u8 D)[j]? = some v → w'.cell? (ad.add j) = some v) := by rw [hD]; exact fun w' hb => w0.pos hb
  have HP : Hid (∀ w', Below w.heap.size w w' → 0 < (ints .u8 P).length → ∃ ad, a1 = some ad ∧ ∀ j v, (ints .u8 P)[j]? = some v → w'.cell? (ad.add j) = some v) := by rw [hP]; exact fun w' hb => w1.pos hb
  have spD : Hid (splice (List.replicate len0 (Value.int .u8 0)) 0 (ints .u8 D) = ints .u8 D) := b_splice_all _ _ (by rw [length_ints, hDl.out]; simp)
  have spP : Hid (splice (List.replicate len1 (Value.int .u8 0)) 0 (ints .u8 P) = ints .u8 P) := b_splice_all _ _ (by rw [length_ints, hPl.out]; simp)
  have HX : Hid (∀ w', Below w.heap.size w w' → Reads w' a1 len1 P) := by rw [hP]; exact fun w' hb => reads_in w1 hb
  have HLs : Hid (∀ w' gF gD, Below w.heap.size w w' → w.heap.size ≤ gF → w.heap.size ≤ gD → LinesOk w' a1 len1 cap1 P gF gD) := by rw [hP]; exact fun w' gF gD hb h1 h2 => lines_ok w1 hb h1 h2
  have Hlast : Hid (D.getD (len0 - 1) 0 = b) := by rw [hD]; exact hlast
  clear hlast
  have hq0 := err_eq
  clear hD hP
  go_enter Yba.func4, Yba.ntmps4
  go_wp2_with (first
    | (at_make; refine law_make rfl (.tmp 38) (.tmp 38) 24 rfl 5 i0 (.int .u8 0) 1 Yba.underlying24 hi hz0 hz1 hz2 rfl .i64 .i64 _ _ len0 len0 rfl rfl rfl rfl (Nat.le_refl _) (by omega) (by unfold maxLen; omega) ?_; intro g1 v1 e1 r1 s1 q1; have B1 : Below w.heap.size w v1 := (Below.refl _ _).grown q1 (Nat.le_refl _) (fun k hk => by cases hk))
    | (with_reducible refine at_copy (.tmp 40) (.tmp 41) ?_; refine law_copy rfl (.tmp 40) (.tmp 41) 24 24 rfl 5 Yba.underlying24 size5 g1 0 _ _ _ _ _ rfl rfl (List.replicate len0 (.int .u8 0)) 5 r1 (ints .u8 D) hDm.out (HD.out _ B1) fD.out (ints_one _ _) ?_; intro v2 r2 s2 q2; rw [spD.out] at r2; have B2 : Below w.heap.size w v2 := B1.grown q2 B1.size (fun k hk => by cases hk; exact Nat.le_of_eq e1.out.symm))
    | (at_make; refine law_make rfl (.tmp 44) (.tmp 44) 24 rfl 5 i0 (.int .u8 0) 1 Yba.underlying24 hi hz0 hz1 hz2 rfl .i64 .i64 _ _ len1 len1 rfl rfl rfl rfl (Nat.le_refl _) (by omega) (by unfold maxLen; omega) ?_; intro g2 v3 e2 r3 s3 q3; have B3 : Below w.heap.size w v3 := B2.grown q3 B2.size (fun k hk => by cases hk))
    | (with_reducible refine at_copy (.tmp 46) (.tmp 47) ?_; refine law_copy rfl (.tmp 46) (.tmp 47) 24 24 rfl 5 Yba.underlying24 size5 g2 0 _ _ _ _ _ rfl rfl (List.replicate len1 (.int .u8 0)) 5 r3 (ints .u8 P) hPm.out (HP.out _ B3) fP.out (ints_one _ _) ?_; intro v4 r4 s4 q4; rw [spP.out] at r4; have B4 : Below w.heap.size w v4 := B3.grown q4 B3.size (fun k hk => by cases hk; rw [e2.out]; exact B2.size))
    | (at_make; refine law_make rfl (.tmp 50) (.tmp 50) 24 rfl 5 i0 (.int .u8 0) 1 Yba.underlying24 hi hz0 hz1 hz2 rfl .i64 .i64 _ _ len0 len0 rfl rfl rfl rfl (Nat.le_refl _) (by omega) (by unfold maxLen; omega) ?_; intro g3 v5 e3 r5 s5 q5; have B5 : Below w.heap.size w v5 := B4.grown q5 B4.size (fun k hk => by cases hk))
    | (with_reducible refine at_copy (.tmp 52) (.tmp 53) ?_; refine law_copy rfl (.tmp 52) (.tmp 53) 24 24 rfl 5 Yba.underlying24 size5 g3 0 _ _ _ _ _ rfl rfl (List.replicate len0 (.int .u8 0)) 5 r5 (ints .u8 D) hDm.out (HD.out _ B5) fD.out (ints_one _ _) ?_; intro v6 r6 s6 q6; rw [spD.out] at r6; have B6 : Below w.heap.size w v6 := B5.grown q6 B5.size (fun k hk => by cases hk; rw [e3.out]; exact B4.size))
    | (go_at_call 10; refine (new_any _ _).mono ?_; rintro e w' ⟨rfl, rfl⟩)
    | fail)
  have E1 : w.heap.size ≤ g1 := Nat.le_of_eq e1.out.symm
  have E12 : g1 < g2 := by have := e1.out; have := s1.out; have := s2.out; have := e2.out; omega
  have E23 : g2 < g3 := by have := e2.out; have := s3.out; have := s4.out; have := e3.out; omega
  have E3 : g3 < v6.heap.size := by have := s5.out; have := s6.out; omega
  have ro : Row v6 g1 5 (ints .u8 D) := (((r2.grown q3 (by simp)).grown q4 (by simp; omega)).grown q5 (by simp)).grown q6 (by simp; omega)
  have rl : Row v6 g2 5 (ints .u8 P) := (r4.grown q5 (by simp)).grown q6 (by simp; omega)
  clear r1 r2 r3 r4 r5 q1 q2 q3 q4 q5 q6 e1 e2 e3 s1 s2 s3 s4 s5 s6 B1 B2 B3 B4 B5 HD HP spD spP fD fP hDm hPm
  obtain ⟨rS, rR, rW, rT, rF, G6⟩ := stageF v6 ⟨#[115, 101, 101, 107]⟩ ⟨#[114, 101, 97, 100]⟩ ⟨#[119, 114, 105, 116, 101]⟩ ⟨#[116, 114, 117, 110, 99]⟩ (fl (.slice (some ⟨g3, 0, none⟩) len0 len0) 3 kn v6.heap.size (v6.heap.size + 1) (v6.heap.size + 1 + 1) (v6.heap.size + 1 + 1 + 1) 0 0 0 0 0 0 0 0 0)
  have rd := r6.grown G6 (by simp)
  have ro' := ro.grown G6 (by simp)
  have rl' := rl.grown G6 (by simp)
  have B7 := B6.grown G6 B6.size (fun k hk => by cases hk)
  have HL6 := HLs.out _ (v6.heap.size + 1 + 1 + 1 + 1) g3 B7 (by omega) (by omega)
  obtain ⟨q, hq⟩ : ∃ q, q = min kn (1 + len1) := ⟨_, rfl⟩
  refine (app_2_s3 (v6.heap.size + 1 + 1 + 1 + 1) g3 len0 kn v6.heap.size (v6.heap.size + 1) (v6.heap.size + 1 + 1) (v6.heap.size + 1 + 1 + 1) D a1 len1 cap1 P _ (by omega) (by omega) hDl.out h0 b Hlast.out hb q hkn hq rF rd HL6).mono ?_
  rintro e v7 ⟨gJ, gL, cJ, LJ, g', c', cur', rfl, rJ7, rL7, rF7, rd7, ht7, K7, hl7⟩
  have Hq : Hid (q = min kn (1 + len1)) := hq
  have hqm : q ≤ (1 + len1) := by omega
  clear hq
  have ro7 := ro'.kept K7 (by simp; omega)
  have rl7 := rl'.kept K7 (by simp; omega)
  have rW7 := rW.kept K7 (by simp; omega)
  have rT7 := rT.kept K7 (by simp; omega)
  have B8 := K7.below B7 B7.size (fun x hx => by simp at hx; omega)
  clear rS rR rW rT rF G6 rd ro' rl' B7 HL6 K7 r6 ro rl
  have HT := @id (Hid _) ht7
  clear ht7 hl7
  go_wp2_with fail
  refine (beq_same a1 (some ⟨g2, 0, none⟩) len1 cap1 len1 P _ (by omega) (HX.out _ B8) (Reads.of_row rl7 (List.take_of_length_le (by rw [length_ints, hPl.out]; omega)) hPl.out)).mono ?_
  rintro e v8 ⟨rfl, nq, rfl⟩
  have BV : Below w.heap.size w (v7.drewN nq) := B8.trans ⟨rfl, rfl, rfl, Nat.le_refl _, fun _ _ => rfl⟩
  have rF8 : Row (v7.drewN nq) (v6.heap.size + 1 + 1 + 1 + 1) 57 _ := rF7
  have ro8 : Row (v7.drewN nq) g1 5 (ints .u8 D) := ro7
  have rl8 : Row (v7.drewN nq) g2 5 (ints .u8 P) := rl7
  have rd8 : Row (v7.drewN nq) g' 5 cur' := rd7
  have rJ8 : Row (v7.drewN nq) gJ 86 _ := rJ7
  have rL8 : Row (v7.drewN nq) gL 54 _ := rL7
  have rW8 : Row (v7.drewN nq) (v6.heap.size + 1 + 1) 65 _ := rW7
  have rT8 : Row (v7.drewN nq) (v6.heap.size + 1 + 1 + 1) 65 _ := rT7
  clear rF7 ro7 rl7 rd7 rJ7 rL7 rW7 rT7 B8
  generalize v7.drewN nq = V at *
  have c0 := rF8.cell (k := 0) rfl
  have c7 := rF8.cell (k := 7) rfl
  have c8 := rF8.cell (k := 8) rfl
  have c9 := rF8.cell (k := 9) rfl
  have c10 := rF8.cell (k := 10) rfl
  have c11 := rF8.cell (k := 11) rfl
  have c12 := rF8.cell (k := 12) rfl
  have c13 := rF8.cell (k := 13) rfl
  have c14 := rF8.cell (k := 14) rfl
  have c15 := rF8.cell (k := 15) rfl
  have c3 : V.cell? ⟨v6.heap.size + 1 + 1 + 1 + 1, 3, none⟩ = some (.iface 63 (.pointer (some ⟨v6.heap.size, 0, none⟩))) := rF8.cell (k := 3) rfl
  have c4 : V.cell? ⟨v6.heap.size + 1 + 1 + 1 + 1, 4, none⟩ = some (.iface 63 (.pointer (some ⟨v6.heap.size + 1, 0, none⟩))) := rF8.cell (k := 4) rfl
  have c5 : V.cell? ⟨v6.heap.size + 1 + 1 + 1 + 1, 5, none⟩ = some (.iface 63 (.pointer (some ⟨v6.heap.size + 1 + 1, 0, none⟩))) := rF8.cell (k := 5) rfl
  have c6 : V.cell? ⟨v6.heap.size + 1 + 1 + 1 + 1, 6, none⟩ = some (.iface 63 (.pointer (some ⟨v6.heap.size + 1 + 1 + 1, 0, none⟩))) := rF8.cell (k := 6) rfl
  have hlo : V.cell? ⟨g1, len0 - 1, none⟩ = some (.int .u8 b) := ro8.cell (by rw [Rk.ints_at _ _ _ (by have := hDl.out; omega), Hlast.out])
  have HIl : Hid ((ints .u8 P).length = len1) := by show _ = _; rw [length_ints, hPl.out]
  have HDl' : Hid ((ints .u8 D).length = len0) := by show _ = _; rw [length_ints, hDl.out]
  have vF := rF8.lt
  have vo := ro8.lt
  have vl := rl8.lt
  have vd := rd8.lt
  go_wp2_with (first
    | ((with_reducible refine at_mk (.tmp 194) ?_); go_must (refine law_make rfl (.const (.int .i64 0)) (.tmp 194) 24 rfl 5 i0 (.int .u8 0) 1 Yba.underlying24 hi hz0 hz1 hz2 rfl .i64 .i64 _ _ 0 (len1 + 1) rfl rfl rfl (by omega) (Nat.zero_le _) (by omega) (by unfold maxLen; omega) ?_; intro gp u1 ep rp sp bp; have BU1 : Below V.heap.size V u1 := (Below.refl _ _).grown bp (Nat.le_refl _) (fun k hk => by cases hk); have lp : V.heap.size ≤ gp := Nat.le_of_eq ep.out.symm; have hlo1 : u1.cell? ⟨g1, len0 - 1, none⟩ = some (.int .u8 b) := (BU1.cell vo).trans hlo))
    | (at_builtin; (with_reducible refine at_app (.tmp 206) ?_); go_must (refine law_append rfl (.tmp 206) (.tmp 207) 24 rfl 5 i0 (.int .u8 0) 1 Yba.underlying24 hi hz0 hz1 hz2 rfl gp 0 (len1 + 1) (List.replicate (len1 + 1) (.int .u8 0)) rfl (rp.alloc _) (Nat.zero_le _) (by unfold maxLen; omega) (by simp) (some ⟨u1.heap.size, 0, none⟩) 1 1 [.int .u8 10] rfl rfl (by simp) (rowPos (Row.new u1 5 [.int .u8 10])) (by simp [Value.oneCell']) (by unfold maxLen; omega) (by omega) ?_; intro g2p c2p cur2p u2 r2p hn2p hc2p hl2p ht2p b2p hloc2p; have BU2 : Below V.heap.size V u2 := (BU1.alloc BU1.size _).grown b2p (by have := BU1.size; simp; omega) (fun k hk => by cases hk; exact lp); have l2p := locOf' BU1 lp hloc2p.out))
    | (at_builtin; (with_reducible refine at_app (.tmp 209) ?_); go_must (refine law_append rfl (.tmp 209) (.tmp 210) 24 rfl 5 i0 (.int .u8 0) 1 Yba.underlying24 hi hz0 hz1 hz2 rfl g2p 1 c2p cur2p rfl r2p hn2p hc2p.out hl2p.out (some ⟨g2, 0, none⟩) len1 len1 (ints .u8 P) rfl HIl.out (by simp) (rowPos (rl8.below BU2 vl)) (ints_one _ _) (by unfold maxLen; omega) (by omega) ?_; intro g3p c3p cur3p u3 r3p hn3p hc3p hl3p ht3p b3p hloc3p; have BU3 : Below V.heap.size V u3 := BU2.grown b3p BU2.size (fun k hk => by cases hk; exact l2p); have l3p := locOf BU2 l2p hloc3p.out; have HP3 : Hid (cur3p.take (1 + len1) = ints .u8 (10 :: P)) := payEq ht2p.out ht3p.out; have d0 := (BU3.cell (p := ⟨v6.heap.size + 1 + 1 + 1 + 1, 0, none⟩) vF).trans c0; have d5 := (BU3.cell (p := ⟨v6.heap.size + 1 + 1 + 1 + 1, 5, none⟩) vF).trans c5; have d6 := (BU3.cell (p := ⟨v6.heap.size + 1 + 1 + 1 + 1, 6, none⟩) vF).trans c6; have d9 := (BU3.cell (p := ⟨v6.heap.size + 1 + 1 + 1 + 1, 9, none⟩) vF).trans c9; have d10 := (BU3.cell (p := ⟨v6.heap.size + 1 + 1 + 1 + 1, 10, none⟩) vF).trans c10; have d15 := (BU3.cell (p := ⟨v6.heap.size + 1 + 1 + 1 + 1, 15, none⟩) vF).trans c15))
    | fail)
  refine (is_of_is2 gJ (v6.heap.size + 1 + 1) true _ (is2_join_first gJ gL 2 cJ (v6.heap.size + 1 + 1) (er (v6.heap.size + 1 + 1 + 1) :: LJ) _ (rJ8.below BU3 rJ8.lt) (rL8.below BU3 rL8.lt) (by omega))).mono ?_
  rintro e u9 ⟨rfl, rfl⟩
  have HQL : Hid ((ints .u8 ((10 :: P).take q)).length = q) := by show _ = _; rw [length_ints]; simp; have := hPl.out; omega
  have HQT : Hid (cur3p.take q = ints .u8 ((10 :: P).take q)) := takeTake HP3.out hqm
  have hq3 : q ≤ c3p := by omega
  by_cases hkm' : (1 + len1) < kn
  · have eq : q = (1 + len1) := by have := Hq.out; omega
    have Heq : Hid ((1 + len1) = q) := eq.symm
    clear eq
    rw [Heq.out] at *
    go_wp2_with (first
      | ((with_reducible refine at_mk (.tmp 273) ?_); go_must (refine law_make rfl (.const (.int .i64 0)) (.tmp 273) 24 rfl 5 i0 (.int .u8 0) 1 Yba.underlying24 hi hz0 hz1 hz2 rfl .i64 .i64 _ _ 0 (len0 + q) rfl rfl rfl (by omega) (Nat.zero_le _) (by omega) (by unfold maxLen; omega) ?_; intro gw u4 ew rw4 sw bw; have BU4 : Below V.heap.size V u4 := BU3.grown bw BU3.size (fun k hk => by cases hk); have lw : V.heap.size ≤ gw := (by rw [ew.out]; exact BU3.size); have r3p4 := r3p.grown bw (by simp)))
      | (at_builtin; (with_reducible refine at_app (.tmp 275) ?_); go_must (refine law_append rfl (.tmp 275) (.tmp 276) 24 rfl 5 i0 (.int .u8 0) 1 Yba.underlying24 hi hz0 hz1 hz2 rfl gw 0 (len0 + q) (List.replicate (len0 + q) (.int .u8 0)) rfl rw4 (Nat.zero_le _) (by unfold maxLen; omega) (by simp) (some ⟨g1, 0, none⟩) len0 len0 (ints .u8 D) rfl HDl'.out (by simp) (rowPos (ro8.below BU4 vo)) (ints_one _ _) (by unfold maxLen; omega) (by omega) ?_; intro g5 k5 cur5 u5 r5w hn5 hc5 hl5 ht5 b5 hloc5; have BU5 : Below V.heap.size V u5 := BU4.grown b5 BU4.size (fun k hk => by cases hk; exact lw); have l5 := locOf BU4 lw hloc5.out; have r3p5 := r3p4.grown b5 (by simp; have := r3p.lt; have := ew.out; omega); skip))
      | (at_builtin; (with_reducible refine at_app (.tmp 278) ?_); go_must (refine law_append rfl (.tmp 278) (.tmp 281) 24 rfl 5 i0 (.int .u8 0) 1 Yba.underlying24 hi hz0 hz1 hz2 rfl g5 len0 k5 cur5 rfl r5w (by omega) hc5.out hl5.out (some ⟨g3p, 0, none⟩) q c3p (ints .u8 ((10 :: P).take q)) rfl HQL.out (by simp) (takePos r3p5 HQT.out) (ints_one _ _) (by unfold maxLen; omega) (by omega) ?_; intro g6 k6 cur6 u6 r6w hn6 hc6 hl6 ht6 b6 hloc6; have BU6 : Below V.heap.size V u6 := BU5.grown b6 BU5.size (fun k hk => by cases hk; exact l5); have f0 := (BU6.cell (p := ⟨v6.heap.size + 1 + 1 + 1 + 1, 0, none⟩) vF).trans c0; have f6 := (BU6.cell (p := ⟨v6.heap.size + 1 + 1 + 1 + 1, 6, none⟩) vF).trans c6))
      | fail)
    refine (is_of_is2 gJ (v6.heap.size + 1 + 1 + 1) true _ (is2_join_second gJ gL 2 cJ (v6.heap.size + 1 + 1) (v6.heap.size + 1 + 1 + 1) LJ _ (rJ8.below BU6 rJ8.lt) (rL8.below BU6 rL8.lt) (by omega) (by omega) _ _ (rW8.below BU6 rW8.lt) (rT8.below BU6 rT8.lt))).mono ?_
    rintro e u7 ⟨rfl, rfl⟩
    go_wp2_with fail
    refine (beq_same (some ⟨g', 0, none⟩) (some ⟨g6, 0, none⟩) (len0 + q) _ _ (D ++ (10 :: P).take q) _ (by omega) (Reads.of_row (rd8.below BU6 vd) HT.out (by simp; have := hDl.out; have := hPl.out; omega)) (Reads.of_row r6w (wantEq hDl.out ht5.out ht6.out) (by simp; have := hDl.out; have := hPl.out; omega))).mono ?_
    rintro e v9 ⟨rfl, nr, rfl⟩
    go_wp2
    go_ret
    exact ⟨rfl, (BV.trans (BU6.mono BV.size)).trans ⟨rfl, rfl, rfl, Nat.le_refl _, fun _ _ => rfl⟩⟩
  · have eq : q = kn := by have := Hq.out; omega
    have Heq : Hid (kn = q) := eq.symm
    clear eq
    rw [Heq.out] at *
    go_wp2_with (first
      | ((with_reducible refine at_mk (.tmp 273) ?_); go_must (refine law_make rfl (.const (.int .i64 0)) (.tmp 273) 24 rfl 5 i0 (.int .u8 0) 1 Yba.underlying24 hi hz0 hz1 hz2 rfl .i64 .i64 _ _ 0 (len0 + q) rfl rfl rfl (by omega) (Nat.zero_le _) (by omega) (by unfold maxLen; omega) ?_; intro gw u4 ew rw4 sw bw; have BU4 : Below V.heap.size V u4 := BU3.grown bw BU3.size (fun k hk => by cases hk); have lw : V.heap.size ≤ gw := (by rw [ew.out]; exact BU3.size); have r3p4 := r3p.grown bw (by simp)))
      | (at_builtin; (with_reducible refine at_app (.tmp 275) ?_); go_must (refine law_append rfl (.tmp 275) (.tmp 276) 24 rfl 5 i0 (.int .u8 0) 1 Yba.underlying24 hi hz0 hz1 hz2 rfl gw 0 (len0 + q) (List.replicate (len0 + q) (.int .u8 0)) rfl rw4 (Nat.zero_le _) (by unfold maxLen; omega) (by simp) (some ⟨g1, 0, none⟩) len0 len0 (ints .u8 D) rfl HDl'.out (by simp) (rowPos (ro8.below BU4 vo)) (ints_one _ _) (by unfold maxLen; omega) (by omega) ?_; intro g5 k5 cur5 u5 r5w hn5 hc5 hl5 ht5 b5 hloc5; have BU5 : Below V.heap.size V u5 := BU4.grown b5 BU4.size (fun k hk => by cases hk; exact lw); have l5 := locOf BU4 lw hloc5.out; have r3p5 := r3p4.grown b5 (by simp; have := r3p.lt; have := ew.out; omega); skip))
      | (at_builtin; (with_reducible refine at_app (.tmp 278) ?_); go_must (refine law_append rfl (.tmp 278) (.tmp 281) 24 rfl 5 i0 (.int .u8 0) 1 Yba.underlying24 hi hz0 hz1 hz2 rfl g5 len0 k5 cur5 rfl r5w (by omega) hc5.out hl5.out (some ⟨g3p, 0, none⟩) q c3p (ints .u8 ((10 :: P).take q)) rfl HQL.out (by simp) (takePos r3p5 HQT.out) (ints_one _ _) (by unfold maxLen; omega) (by omega) ?_; intro g6 k6 cur6 u6 r6w hn6 hc6 hl6 ht6 b6 hloc6; have BU6 : Below V.heap.size V u6 := BU5.grown b6 BU5.size (fun k hk => by cases hk; exact l5); have f0 := (BU6.cell (p := ⟨v6.heap.size + 1 + 1 + 1 + 1, 0, none⟩) vF).trans c0; have f6 := (BU6.cell (p := ⟨v6.heap.size + 1 + 1 + 1 + 1, 6, none⟩) vF).trans c6))
      | fail)
    refine (is_of_is2 gJ (v6.heap.size + 1 + 1 + 1) true _ (is2_join_second gJ gL 2 cJ (v6.heap.size + 1 + 1) (v6.heap.size + 1 + 1 + 1) LJ _ (rJ8.below BU6 rJ8.lt) (rL8.below BU6 rL8.lt) (by omega) (by omega) _ _ (rW8.below BU6 rW8.lt) (rT8.below BU6 rT8.lt))).mono ?_
    rintro e u7 ⟨rfl, rfl⟩
    go_wp2_with fail
    refine (beq_same (some ⟨g', 0, none⟩) (some ⟨g6, 0, none⟩) (len0 + q) _ _ (D ++ (10 :: P).take q) _ (by omega) (Reads.of_row (rd8.below BU6 vd) HT.out (by simp; have := hDl.out; have := hPl.out; omega)) (Reads.of_row r6w (wantEq hDl.out ht5.out ht6.out) (by simp; have := hDl.out; have := hPl.out; omega))).mono ?_
    rintro e v9 ⟨rfl, nr, rfl⟩
    go_wp2
    go_ret
    exact ⟨rfl, (BV.trans (BU6.mono BV.size)).trans ⟨rfl, rfl, rfl, Nat.le_refl _, fun _ _ => rfl⟩⟩

end Go.Proofs.Ybulkdzcs
