import Derived.Test.YbulkdzcsApp
namespace Go.Proofs.Ybulkdzcs
open Go.RowKit Go.Rk
set_option linter.unusedVariables false
set_option linter.unusedSimpArgs false

set_option maxHeartbeats 2000000 in
set_option maxRecDepth 100000 in
theorem app_1_s2 (gF gD : Nat) (n : Nat) (kn : Nat) (eS eR eW eT : Nat) (D : List Int) (a1 : Option Addr) (len1 cap1 : Nat) (P : List Int) (w : World) (hn : n ≤ 1048576) (hl1 : len1 ≤ 1048576) (hDl : D.length = n) (h0 : 0 < n) (b : Int) (hlast : D.getD (n - 1) 0 = b) (hb : (b != 10) = false) (q : Nat) (hk : kn ≤ 1048577) (hq : q = min kn len1)
    (hF : Row w gF 57 (fl (.slice (some ⟨gD, 0, none⟩) n n) 2 kn eS eR eW eT 0 0 0 0 0 0 0 0 0)) (hD : Row w gD 5 (ints .u8 D)) (hL : LinesOk w a1 len1 cap1 P gF gD) :
    Calls Yba.prog 11 #[.iface 52 (.pointer (some ⟨gF, 0, none⟩)), .slice a1 len1 cap1] w fun e w' => ∃ gJ gL cJ LJ g' c' cur', e = .returned (.iface 84 (.pointer (some ⟨gJ, 0, none⟩))) ∧ Row w' gJ 86 [.slice (some ⟨gL, 0, none⟩) 1 cJ] ∧ Row w' gL 54 (er eW :: LJ) ∧ Row w' gF 57 (fl (.slice (some ⟨g', 0, none⟩) n c') 2 kn eS eR eW eT 1 1 1 1 0 2 ((n : Int) - 1) 1 (n : Nat)) ∧ Row w' g' 5 cur' ∧ cur'.take n = ints .u8 D ∧ Kept [gF, gD] w w' ∧ (g' = gD ∨ w.heap.size ≤ g') := by
  have hFD : gF ≠ gD := Row_ne hF hD (by decide)
  have m1 := methSeek
  have m2 := methRead
  have m3 := methWrite
  have m4 := methTrunc
  have hmb := mkByte
  obtain ⟨i0, hi, hz0, hz1, hz2⟩ := info_parts info5
  have hgF := hF.lt
  have hgD := hD.lt
  have HDl : Hid (D.length = n) := hDl
  have Hcl : Hid ((ints .u8 D).length = n) := by show _ = _; rw [length_ints, hDl]
  have HPl : Hid (P.length = len1) := hL.1
  have HIl : Hid ((ints .u8 P).length = len1) := by show _ = _; rw [length_ints, hL.1]
  have Hnone : Hid (a1 = none → len1 = 0 ∧ cap1 = 0) := hL.2.2.1
  have hl1c := hL.2.1
  have Hlast : Hid ((ints .u8 D)[n - 1]? = some (.int .u8 b)) := by show _ = _; rw [Rk.ints_at _ _ _ (by omega), hlast]
  clear hlast
  have Hq : Hid (q = min kn len1) := hq
  have hqm : q ≤ len1 := by omega
  clear hq
  clear hDl
  go_enter Yba.func11, Yba.ntmps11
  go_wp2_with (first
    | (go_at_call 58; go_must (refine (seek_ok gF gD n n 2 kn eS eR eW eT _ rfl hn hF).mono ?_; rintro e v1 ⟨rfl, rF1, g1⟩; have rD1 := hD.grown g1 (by simpa using hFD.symm); have K1 : Kept [gF, gD] w v1 := Kept.of_grown g1 (fun g e => by cases e; simp); have hz1' := K1.size))
    | (go_at_call 57; go_must (refine (read_ok gF gD n n 2 kn eS eR eW eT _ v1.heap.size (ints .u8 D) b rfl hn h0 (Nat.le_refl n) (rF1.alloc _) (rD1.alloc _) Hlast.out (Row.new v1 5 [.int .u8 0]) hFD (by omega) (by omega)).mono ?_; rintro e v3 ⟨rfl, rF3, rL3, k3⟩; have q0 := rL3.cell (k := 0) (v := .int .u8 b) rfl; have rD3 := (rD1.alloc (.cells #[.int .u8 0] 5)).kept k3 (by simp; omega); have K3 : Kept [gF, gD] w v3 := kept3 K1 k3 (by omega)))
    | (go_at_call 60; go_must (refine (write_part gF gD n n 2 eS eR eW eT _ (ints .u8 D) a1 len1 cap1 kn q P 1 ((n : Int) - 1) 1 (.inl rfl) hn (by omega) hl1c hk Hq.out (Nat.le_refl _) (by unfold maxLen; omega) Hcl.out rF3 rD3 hFD HPl.out Hnone.out (hL.at K3)).mono ?_; rintro e v5 ⟨rfl, g', c', cur', rF5, r5, hnm5, hc5, hl5, ht5, k5, hloc5⟩; have K5 := K3.trans k5; have HT := @id (Hid _) ht5; have HLo := @id (Hid _) hloc5; have hne5 := Row_ne r5 rF5 (by decide); clear ht5 hloc5 hl5))
    | (go_at_call 59; go_must (refine (trunc_ok gF n 2 kn eS eR eW eT _ g' (n + q) c' 1 ((n : Int) - 1) 1 rfl (by omega) (by omega) hnm5 rF5).mono ?_; rintro e v6 ⟨rfl, rF6, g6⟩; have r6 := r5.grown g6 (by simpa using hne5); have K6 := K5.trans (Kept.of_grown g6 (fun g e => by cases e; simp))))
    | (go_at_call 17; go_must (refine (join_one v6.heap.size eW _ (Row.new v6 54 [er eW, .nilIface])).mono ?_; rintro e v7 ⟨gJ, gL, cJ, LJ, rfl, rJ, rLL, g7⟩))
    | fail)
  go_ret
  have K7 : Kept [gF, gD] w v7 := (Kept_alloc K6 _).trans (Kept.of_grown g7 (fun _ e => by cases e))
  refine ⟨gJ, gL, cJ, LJ, g', c', cur', rfl, rJ, rLL, (rF6.alloc _).grown g7 (by simp), (r6.alloc _).grown g7 (by simp), ?_, K7, (hLoOf K3 HLo.out)⟩
  exact cutTake HDl.out HT.out

set_option maxHeartbeats 2000000 in
set_option maxRecDepth 100000 in
theorem app_1_s3 (gF gD : Nat) (n : Nat) (kn : Nat) (eS eR eW eT : Nat) (D : List Int) (a1 : Option Addr) (len1 cap1 : Nat) (P : List Int) (w : World) (hn : n ≤ 1048576) (hl1 : len1 ≤ 1048576) (hDl : D.length = n) (h0 : 0 < n) (b : Int) (hlast : D.getD (n - 1) 0 = b) (hb : (b != 10) = false) (q : Nat) (hk : kn ≤ 1048577) (hq : q = min kn len1)
    (hF : Row w gF 57 (fl (.slice (some ⟨gD, 0, none⟩) n n) 3 kn eS eR eW eT 0 0 0 0 0 0 0 0 0)) (hD : Row w gD 5 (ints .u8 D)) (hL : LinesOk w a1 len1 cap1 P gF gD) :
    Calls Yba.prog 11 #[.iface 52 (.pointer (some ⟨gF, 0, none⟩)), .slice a1 len1 cap1] w fun e w' => ∃ gJ gL cJ LJ g' c' cur', e = .returned (.iface 84 (.pointer (some ⟨gJ, 0, none⟩))) ∧ Row w' gJ 86 [.slice (some ⟨gL, 0, none⟩) 2 cJ] ∧ Row w' gL 54 (er eW :: er eT :: LJ) ∧ Row w' gF 57 (fl (.slice (some ⟨g', 0, none⟩) (n + q) c') 3 kn eS eR eW eT 1 1 1 1 0 2 ((n : Int) - 1) 1 (n : Nat)) ∧ Row w' g' 5 cur' ∧ cur'.take (n + q) = ints .u8 (D ++ P.take q) ∧ Kept [gF, gD] w w' ∧ (g' = gD ∨ w.heap.size ≤ g') := by
  have hFD : gF ≠ gD := Row_ne hF hD (by decide)
  have m1 := methSeek
  have m2 := methRead
  have m3 := methWrite
  have m4 := methTrunc
  have hmb := mkByte
  obtain ⟨i0, hi, hz0, hz1, hz2⟩ := info_parts info5
  have hgF := hF.lt
  have hgD := hD.lt
  have HDl : Hid (D.length = n) := hDl
  have Hcl : Hid ((ints .u8 D).length = n) := by show _ = _; rw [length_ints, hDl]
  have HPl : Hid (P.length = len1) := hL.1
  have HIl : Hid ((ints .u8 P).length = len1) := by show _ = _; rw [length_ints, hL.1]
  have Hnone : Hid (a1 = none → len1 = 0 ∧ cap1 = 0) := hL.2.2.1
  have hl1c := hL.2.1
  have Hlast : Hid ((ints .u8 D)[n - 1]? = some (.int .u8 b)) := by show _ = _; rw [Rk.ints_at _ _ _ (by omega), hlast]
  clear hlast
  have Hq : Hid (q = min kn len1) := hq
  have hqm : q ≤ len1 := by omega
  clear hq
  clear hDl
  go_enter Yba.func11, Yba.ntmps11
  go_wp2_with (first
    | (go_at_call 58; go_must (refine (seek_ok gF gD n n 3 kn eS eR eW eT _ rfl hn hF).mono ?_; rintro e v1 ⟨rfl, rF1, g1⟩; have rD1 := hD.grown g1 (by simpa using hFD.symm); have K1 : Kept [gF, gD] w v1 := Kept.of_grown g1 (fun g e => by cases e; simp); have hz1' := K1.size))
    | (go_at_call 57; go_must (refine (read_ok gF gD n n 3 kn eS eR eW eT _ v1.heap.size (ints .u8 D) b rfl hn h0 (Nat.le_refl n) (rF1.alloc _) (rD1.alloc _) Hlast.out (Row.new v1 5 [.int .u8 0]) hFD (by omega) (by omega)).mono ?_; rintro e v3 ⟨rfl, rF3, rL3, k3⟩; have q0 := rL3.cell (k := 0) (v := .int .u8 b) rfl; have rD3 := (rD1.alloc (.cells #[.int .u8 0] 5)).kept k3 (by simp; omega); have K3 : Kept [gF, gD] w v3 := kept3 K1 k3 (by omega)))
    | (go_at_call 60; go_must (refine (write_part gF gD n n 3 eS eR eW eT _ (ints .u8 D) a1 len1 cap1 kn q P 1 ((n : Int) - 1) 1 (.inr ⟨rfl, rfl⟩) hn (by omega) hl1c hk Hq.out (Nat.le_refl _) (by unfold maxLen; omega) Hcl.out rF3 rD3 hFD HPl.out Hnone.out (hL.at K3)).mono ?_; rintro e v5 ⟨rfl, g', c', cur', rF5, r5, hnm5, hc5, hl5, ht5, k5, hloc5⟩; have K5 := K3.trans k5; have HT := @id (Hid _) ht5; have HLo := @id (Hid _) hloc5; have hne5 := Row_ne r5 rF5 (by decide); clear ht5 hloc5 hl5))
    | (go_at_call 59; go_must (refine (trunc_fail gF kn eS eR eW eT _ (.slice (some ⟨g', 0, none⟩) (n + q) c') 1 ((n : Int) - 1) 1 n rF5).mono ?_; rintro e v6 ⟨rfl, rF6, g6⟩; have r6 := r5.grown g6 (by simpa using hne5); have K6 := K5.trans (Kept.of_grown g6 (fun g e => by cases e; simp))))
    | (go_at_call 17; go_must (refine (join_two v6.heap.size eW eT _ (Row.new v6 54 [er eW, er eT])).mono ?_; rintro e v7 ⟨gJ, gL, cJ, LJ, rfl, rJ, rLL, g7⟩))
    | fail)
  go_ret
  have K7 : Kept [gF, gD] w v7 := (Kept_alloc K6 _).trans (Kept.of_grown g7 (fun _ e => by cases e))
  refine ⟨gJ, gL, cJ, LJ, g', c', cur', rfl, rJ, rLL, (rF6.alloc _).grown g7 (by simp), (r6.alloc _).grown g7 (by simp), ?_, K7, (hLoOf K3 HLo.out)⟩
  rw [HT.out]; exact joinTake HDl.out _

end Go.Proofs.Ybulkdzcs
