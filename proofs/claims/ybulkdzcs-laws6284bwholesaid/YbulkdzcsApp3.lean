import Derived.Test.YbulkdzcsApp2
namespace Go.Proofs.Ybulkdzcs
open Go.RowKit Go.Rk
set_option linter.unusedVariables false
set_option linter.unusedSimpArgs false

set_option maxHeartbeats 2000000 in
set_option maxRecDepth 100000 in
theorem app_seek (gF gD n : Nat) (k : Int) (eS eR eW eT : Nat) (a1 : Option Addr) (len1 cap1 : Nat) (w : World)
    (hF : Row w gF 57 (fl (.slice (some ⟨gD, 0, none⟩) n n) 0 k eS eR eW eT 0 0 0 0 0 0 0 0 0)) :
    Calls Yba.prog 11 #[.iface 52 (.pointer (some ⟨gF, 0, none⟩)), .slice a1 len1 cap1] w fun e w' => e = .returned (er eS) ∧ Row w' gF 57 (fl (.slice (some ⟨gD, 0, none⟩) n n) 0 k eS eR eW eT 1 0 0 0 0 2 0 0 0) ∧ Kept [gF] w w' := by
  have m1 := methSeek
  go_enter Yba.func11, Yba.ntmps11
  go_wp2_with (go_at_call 58; refine (seek_fail gF gD n n k eS eR eW eT _ hF).mono ?_; rintro e v1 ⟨rfl, rF1, g1⟩)
  go_ret
  exact ⟨rfl, rF1, Kept.of_grown g1 (fun g e => by cases e; simp)⟩

set_option maxHeartbeats 2000000 in
set_option maxRecDepth 100000 in
theorem app_read (gF gD n : Nat) (k : Int) (eS eR eW eT : Nat) (a1 : Option Addr) (len1 cap1 : Nat) (w : World) (hn : n ≤ 1048576) (h0 : 0 < n)
    (hF : Row w gF 57 (fl (.slice (some ⟨gD, 0, none⟩) n n) 1 k eS eR eW eT 0 0 0 0 0 0 0 0 0)) :
    Calls Yba.prog 11 #[.iface 52 (.pointer (some ⟨gF, 0, none⟩)), .slice a1 len1 cap1] w fun e w' => e = .returned (er eR) ∧ Row w' gF 57 (fl (.slice (some ⟨gD, 0, none⟩) n n) 1 k eS eR eW eT 1 1 0 0 0 2 ((n : Int) - 1) 1 0) ∧ Kept [gF] w w' := by
  have m1 := methSeek
  have m2 := methRead
  have hmb := mkByte
  go_enter Yba.func11, Yba.ntmps11
  go_wp2_with (first
    | (go_at_call 58; refine (seek_ok gF gD n n 1 k eS eR eW eT _ rfl hn hF).mono ?_; rintro e v1 ⟨rfl, rF1, g1⟩)
    | (go_at_call 57; refine (read_fail gF gD n n k eS eR eW eT _ v1.heap.size hn h0 (rF1.alloc _)).mono ?_; rintro e v3 ⟨rfl, rF3, g3⟩)
    | fail)
  go_ret
  exact ⟨rfl, rF3, (Kept_alloc (Kept.of_grown g1 (fun g e => by cases e; simp)) _).trans (Kept.of_grown g3 (fun g e => by cases e; simp))⟩

set_option maxHeartbeats 2000000 in
set_option maxRecDepth 100000 in
theorem app_2_ok (gF gD : Nat) (n : Nat) (sel : Int) (k : Int) (eS eR eW eT : Nat) (D : List Int) (a1 : Option Addr) (len1 cap1 : Nat) (P : List Int) (w : World) (hn : n ≤ 1048576) (hl1 : len1 ≤ 1048576) (hDl : D.length = n) (h0 : 0 < n) (b : Int) (hlast : D.getD (n - 1) 0 = b) (hb : (b != 10) = true) (hs0 : (sel == 0) = false) (hs1 : (sel == 1) = false) (hs2 : (sel == 2) = false) (hs3 : (sel == 3) = false)
    (hF : Row w gF 57 (fl (.slice (some ⟨gD, 0, none⟩) n n) sel k eS eR eW eT 0 0 0 0 0 0 0 0 0)) (hD : Row w gD 5 (ints .u8 D)) (hL : LinesOk w a1 len1 cap1 P gF gD) :
    Calls Yba.prog 11 #[.iface 52 (.pointer (some ⟨gF, 0, none⟩)), .slice a1 len1 cap1] w fun e w' => e = .returned .nilIface ∧ ∃ g' c' cur', Row w' gF 57 (fl (.slice (some ⟨g', 0, none⟩) (n + (1 + len1)) c') sel k eS eR eW eT 1 1 1 0 0 2 ((n : Int) - 1) 1 0) ∧ Row w' g' 5 cur' ∧ cur'.take (n + (1 + len1)) = ints .u8 (D ++ (10 :: P)) ∧ Kept [gF, gD] w w' ∧ (g' = gD ∨ w.heap.size ≤ g') := by
  have hFD : gF ≠ gD := Row_ne hF hD (by decide)
  have m1 := methSeek
  have m2 := methRead
  have m3 := methWrite
  have m4 := methTrunc
  have hmb := mkByte
  obtain ⟨i0, hi, hz0, hz1, hz2⟩ := info_parts info5
  have hgF := hF.lt
  have hgD := hD.lt
  have HDl : Hid (D.length = n) := hDl
  have Hcl : Hid ((ints .u8 D).length = n) := by show _ = _; rw [length_ints, hDl]
  have HPl : Hid (P.length = len1) := hL.1
  have HIl : Hid ((ints .u8 P).length = len1) := by show _ = _; rw [length_ints, hL.1]
  have Hnone : Hid (a1 = none → len1 = 0 ∧ cap1 = 0) := hL.2.2.1
  have hl1c := hL.2.1
  have Hlast : Hid ((ints .u8 D)[n - 1]? = some (.int .u8 b)) := by show _ = _; rw [Rk.ints_at _ _ _ (by omega), hlast]
  clear hlast
  clear hDl
  go_enter Yba.func11, Yba.ntmps11
  go_wp2_with (first
    | (go_at_call 58; go_must (refine (seek_ok gF gD n n sel k eS eR eW eT _ hs0 hn hF).mono ?_; rintro e v1 ⟨rfl, rF1, g1⟩; have rD1 := hD.grown g1 (by simpa using hFD.symm); have K1 : Kept [gF, gD] w v1 := Kept.of_grown g1 (fun g e => by cases e; simp); have hz1' := K1.size))
    | (go_at_call 57; go_must (refine (read_ok gF gD n n sel k eS eR eW eT _ v1.heap.size (ints .u8 D) b hs1 hn h0 (Nat.le_refl n) (rF1.alloc _) (rD1.alloc _) Hlast.out (Row.new v1 5 [.int .u8 0]) hFD (by omega) (by omega)).mono ?_; rintro e v3 ⟨rfl, rF3, rL3, k3⟩; have q0 := rL3.cell (k := 0) (v := .int .u8 b) rfl; have rD3 := (rD1.alloc (.cells #[.int .u8 0] 5)).kept k3 (by simp; omega); have K3 : Kept [gF, gD] w v3 := kept3 K1 k3 (by omega)))
    | (at_builtin; go_must (refine law_append rfl (.tmp 34) (.tmp 35) 24 rfl 5 i0 (.int .u8 0) 1 Yba.underlying24 hi hz0 hz1 hz2 rfl v3.heap.size 1 1 [.int .u8 10] rfl (Row.new v3 5 [.int .u8 10]) (Nat.le_refl _) (by decide) rfl a1 len1 cap1 (ints .u8 P) rfl HIl.out Hnone.out (fun ad had j u hj => (hL.at (Kept_alloc K3 _) ad had j u hj).1) (ints_one _ _) (by unfold maxLen; omega) (by omega) ?_; intro g4 c4 cur4 v4 r4 hnm4 hc4 hl4 ht4 g4' hloc4; have rF4 := (rF3.alloc _).grown g4' (by simp; have := rF3.lt; omega); have rD4 := (rD3.alloc _).grown g4' (by simp; have := rD3.lt; omega); have K4 := keptNew K3 g4'; have hne4 := Row_ne r4 rF4 (by decide); have hz4 := hloc4.out))
    | (go_at_call 60; go_must (refine (write_ok gF gD n n sel k eS eR eW eT _ (ints .u8 D) (some ⟨g4, 0, none⟩) (1 + len1) c4 (10 :: P) 1 ((n : Int) - 1) 1 hs2 hs3 hn (by omega) (Nat.le_refl _) (by unfold maxLen; omega) Hcl.out rF4 rD4 hFD (by simp; have := HPl.out; omega) (by simp) (posOwn r4 ht4.out HPl.out hne4)).mono ?_; rintro e v5 ⟨rfl, g', c', cur', rF5, r5, hnm5, hc5, hl5, ht5, k5, hloc5⟩; have K5 := K4.trans k5; have HT := @id (Hid _) ht5; have HLo := @id (Hid _) hloc5; clear ht5 hloc5 hl5))
    | fail)
  go_ret
  refine ⟨rfl, g', c', cur', rF5, r5, ?_, K5, (hLoOf K4 HLo.out)⟩
  rw [HT.out]; exact joinTake HDl.out _

set_option maxHeartbeats 2000000 in
set_option maxRecDepth 100000 in
theorem app_2_s2 (gF gD : Nat) (n : Nat) (kn : Nat) (eS eR eW eT : Nat) (D : List Int) (a1 : Option Addr) (len1 cap1 : Nat) (P : List Int) (w : World) (hn : n ≤ 1048576) (hl1 : len1 ≤ 1048576) (hDl : D.length = n) (h0 : 0 < n) (b : Int) (hlast : D.getD (n - 1) 0 = b) (hb : (b != 10) = true) (q : Nat) (hk : kn ≤ 1048577) (hq : q = min kn (1 + len1))
    (hF : Row w gF 57 (fl (.slice (some ⟨gD, 0, none⟩) n n) 2 kn eS eR eW eT 0 0 0 0 0 0 0 0 0)) (hD : Row w gD 5 (ints .u8 D)) (hL : LinesOk w a1 len1 cap1 P gF gD) :
    Calls Yba.prog 11 #[.iface 52 (.pointer (some ⟨gF, 0, none⟩)), .slice a1 len1 cap1] w fun e w' => ∃ gJ gL cJ LJ g' c' cur', e = .returned (.iface 84 (.pointer (some ⟨gJ, 0, none⟩))) ∧ Row w' gJ 86 [.slice (some ⟨gL, 0, none⟩) 1 cJ] ∧ Row w' gL 54 (er eW :: LJ) ∧ Row w' gF 57 (fl (.slice (some ⟨g', 0, none⟩) n c') 2 kn eS eR eW eT 1 1 1 1 0 2 ((n : Int) - 1) 1 (n : Nat)) ∧ Row w' g' 5 cur' ∧ cur'.take n = ints .u8 D ∧ Kept [gF, gD] w w' ∧ (g' = gD ∨ w.heap.size ≤ g') := by
  have hFD : gF ≠ gD := Row_ne hF hD (by decide)
  have m1 := methSeek
  have m2 := methRead
  have m3 := methWrite
  have m4 := methTrunc
  have hmb := mkByte
  obtain ⟨i0, hi, hz0, hz1, hz2⟩ := info_parts info5
  have hgF := hF.lt
  have hgD := hD.lt
  have HDl : Hid (D.length = n) := hDl
  have Hcl : Hid ((ints .u8 D).length = n) := by show _ = _; rw [length_ints, hDl]
  have HPl : Hid (P.length = len1) := hL.1
  have HIl : Hid ((ints .u8 P).length = len1) := by show _ = _; rw [length_ints, hL.1]
  have Hnone : Hid (a1 = none → len1 = 0 ∧ cap1 = 0) := hL.2.2.1
  have hl1c := hL.2.1
  have Hlast : Hid ((ints .u8 D)[n - 1]? = some (.int .u8 b)) := by show _ = _; rw [Rk.ints_at _ _ _ (by omega), hlast]
  clear hlast
  have Hq : Hid (q = min kn (1 + len1)) := hq
  have hqm : q ≤ (1 + len1) := by omega
  clear hq
  clear hDl
  go_enter Yba.func11, Yba.ntmps11
  go_wp2_with (first
    | (go_at_call 58; go_must (refine (seek_ok gF gD n n 2 kn eS eR eW eT _ rfl hn hF).mono ?_; rintro e v1 ⟨rfl, rF1, g1⟩; have rD1 := hD.grown g1 (by simpa using hFD.symm); have K1 : Kept [gF, gD] w v1 := Kept.of_grown g1 (fun g e => by cases e; simp); have hz1' := K1.size))
    | (go_at_call 57; go_must (refine (read_ok gF gD n n 2 kn eS eR eW eT _ v1.heap.size (ints .u8 D) b rfl hn h0 (Nat.le_refl n) (rF1.alloc _) (rD1.alloc _) Hlast.out (Row.new v1 5 [.int .u8 0]) hFD (by omega) (by omega)).mono ?_; rintro e v3 ⟨rfl, rF3, rL3, k3⟩; have q0 := rL3.cell (k := 0) (v := .int .u8 b) rfl; have rD3 := (rD1.alloc (.cells #[.int .u8 0] 5)).kept k3 (by simp; omega); have K3 : Kept [gF, gD] w v3 := kept3 K1 k3 (by omega)))
    | (at_builtin; go_must (refine law_append rfl (.tmp 34) (.tmp 35) 24 rfl 5 i0 (.int .u8 0) 1 Yba.underlying24 hi hz0 hz1 hz2 rfl v3.heap.size 1 1 [.int .u8 10] rfl (Row.new v3 5 [.int .u8 10]) (Nat.le_refl _) (by decide) rfl a1 len1 cap1 (ints .u8 P) rfl HIl.out Hnone.out (fun ad had j u hj => (hL.at (Kept_alloc K3 _) ad had j u hj).1) (ints_one _ _) (by unfold maxLen; omega) (by omega) ?_; intro g4 c4 cur4 v4 r4 hnm4 hc4 hl4 ht4 g4' hloc4; have rF4 := (rF3.alloc _).grown g4' (by simp; have := rF3.lt; omega); have rD4 := (rD3.alloc _).grown g4' (by simp; have := rD3.lt; omega); have K4 := keptNew K3 g4'; have hne4 := Row_ne r4 rF4 (by decide); have hz4 := hloc4.out))
    | (go_at_call 60; go_must (refine (write_part gF gD n n 2 eS eR eW eT _ (ints .u8 D) (some ⟨g4, 0, none⟩) (1 + len1) c4 kn q (10 :: P) 1 ((n : Int) - 1) 1 (.inl rfl) hn (by omega) hnm4 hk Hq.out (Nat.le_refl _) (by unfold maxLen; omega) Hcl.out rF4 rD4 hFD (by simp; have := HPl.out; omega) (by simp) (posOwn r4 ht4.out HPl.out hne4)).mono ?_; rintro e v5 ⟨rfl, g', c', cur', rF5, r5, hnm5, hc5, hl5, ht5, k5, hloc5⟩; have K5 := K4.trans k5; have HT := @id (Hid _) ht5; have HLo := @id (Hid _) hloc5; have hne5 := Row_ne r5 rF5 (by decide); clear ht5 hloc5 hl5))
    | (go_at_call 59; go_must (refine (trunc_ok gF n 2 kn eS eR eW eT _ g' (n + q) c' 1 ((n : Int) - 1) 1 rfl (by omega) (by omega) hnm5 rF5).mono ?_; rintro e v6 ⟨rfl, rF6, g6⟩; have r6 := r5.grown g6 (by simpa using hne5); have K6 := K5.trans (Kept.of_grown g6 (fun g e => by cases e; simp))))
    | (go_at_call 17; go_must (refine (join_one v6.heap.size eW _ (Row.new v6 54 [er eW, .nilIface])).mono ?_; rintro e v7 ⟨gJ, gL, cJ, LJ, rfl, rJ, rLL, g7⟩))
    | fail)
  go_ret
  have K7 : Kept [gF, gD] w v7 := (Kept_alloc K6 _).trans (Kept.of_grown g7 (fun _ e => by cases e))
  refine ⟨gJ, gL, cJ, LJ, g', c', cur', rfl, rJ, rLL, (rF6.alloc _).grown g7 (by simp), (r6.alloc _).grown g7 (by simp), ?_, K7, (hLoOf K4 HLo.out)⟩
  exact cutTake HDl.out HT.out

set_option maxHeartbeats 2000000 in
set_option maxRecDepth 100000 in
theorem app_2_s3 (gF gD : Nat) (n : Nat) (kn : Nat) (eS eR eW eT : Nat) (D : List Int) (a1 : Option Addr) (len1 cap1 : Nat) (P : List Int) (w : World) (hn : n ≤ 1048576) (hl1 : len1 ≤ 1048576) (hDl : D.length = n) (h0 : 0 < n) (b : Int) (hlast : D.getD (n - 1) 0 = b) (hb : (b != 10) = true) (q : Nat) (hk : kn ≤ 1048577) (hq : q = min kn (1 + len1))
    (hF : Row w gF 57 (fl (.slice (some ⟨gD, 0, none⟩) n n) 3 kn eS eR eW eT 0 0 0 0 0 0 0 0 0)) (hD : Row w gD 5 (ints .u8 D)) (hL : LinesOk w a1 len1 cap1 P gF gD) :
    Calls Yba.prog 11 #[.iface 52 (.pointer (some ⟨gF, 0, none⟩)), .slice a1 len1 cap1] w fun e w' => ∃ gJ gL cJ LJ g' c' cur', e = .returned (.iface 84 (.pointer (some ⟨gJ, 0, none⟩))) ∧ Row w' gJ 86 [.slice (some ⟨gL, 0, none⟩) 2 cJ] ∧ Row w' gL 54 (er eW :: er eT :: LJ) ∧ Row w' gF 57 (fl (.slice (some ⟨g', 0, none⟩) (n + q) c') 3 kn eS eR eW eT 1 1 1 1 0 2 ((n : Int) - 1) 1 (n : Nat)) ∧ Row w' g' 5 cur' ∧ cur'.take (n + q) = ints .u8 (D ++ (10 :: P).take q) ∧ Kept [gF, gD] w w' ∧ (g' = gD ∨ w.heap.size ≤ g') := by
  have hFD : gF ≠ gD := Row_ne hF hD (by decide)
  have m1 := methSeek
  have m2 := methRead
  have m3 := methWrite
  have m4 := methTrunc
  have hmb := mkByte
  obtain ⟨i0, hi, hz0, hz1, hz2⟩ := info_parts info5
  have hgF := hF.lt
  have hgD := hD.lt
  have HDl : Hid (D.length = n) := hDl
  have Hcl : Hid ((ints .u8 D).length = n) := by show _ = _; rw [length_ints, hDl]
  have HPl : Hid (P.length = len1) := hL.1
  have HIl : Hid ((ints .u8 P).length = len1) := by show _ = _; rw [length_ints, hL.1]
  have Hnone : Hid (a1 = none → len1 = 0 ∧ cap1 = 0) := hL.2.2.1
  have hl1c := hL.2.1
  have Hlast : Hid ((ints .u8 D)[n - 1]? = some (.int .u8 b)) := by show _ = _; rw [Rk.ints_at _ _ _ (by omega), hlast]
  clear hlast
  have Hq : Hid (q = min kn (1 + len1)) := hq
  have hqm : q ≤ (1 + len1) := by omega
  clear hq
  clear hDl
  go_enter Yba.func11, Yba.ntmps11
  go_wp2_with (first
    | (go_at_call 58; go_must (refine (seek_ok gF gD n n 3 kn eS eR eW eT _ rfl hn hF).mono ?_; rintro e v1 ⟨rfl, rF1, g1⟩; have rD1 := hD.grown g1 (by simpa using hFD.symm); have K1 : Kept [gF, gD] w v1 := Kept.of_grown g1 (fun g e => by cases e; simp); have hz1' := K1.size))
    | (go_at_call 57; go_must (refine (read_ok gF gD n n 3 kn eS eR eW eT _ v1.heap.size (ints .u8 D) b rfl hn h0 (Nat.le_refl n) (rF1.alloc _) (rD1.alloc _) Hlast.out (Row.new v1 5 [.int .u8 0]) hFD (by omega) (by omega)).mono ?_; rintro e v3 ⟨rfl, rF3, rL3, k3⟩; have q0 := rL3.cell (k := 0) (v := .int .u8 b) rfl; have rD3 := (rD1.alloc (.cells #[.int .u8 0] 5)).kept k3 (by simp; omega); have K3 : Kept [gF, gD] w v3 := kept3 K1 k3 (by omega)))
    | (at_builtin; go_must (refine law_append rfl (.tmp 34) (.tmp 35) 24 rfl 5 i0 (.int .u8 0) 1 Yba.underlying24 hi hz0 hz1 hz2 rfl v3.heap.size 1 1 [.int .u8 10] rfl (Row.new v3 5 [.int .u8 10]) (Nat.le_refl _) (by decide) rfl a1 len1 cap1 (ints .u8 P) rfl HIl.out Hnone.out (fun ad had j u hj => (hL.at (Kept_alloc K3 _) ad had j u hj).1) (ints_one _ _) (by unfold maxLen; omega) (by omega) ?_; intro g4 c4 cur4 v4 r4 hnm4 hc4 hl4 ht4 g4' hloc4; have rF4 := (rF3.alloc _).grown g4' (by simp; have := rF3.lt; omega); have rD4 := (rD3.alloc _).grown g4' (by simp; have := rD3.lt; omega); have K4 := keptNew K3 g4'; have hne4 := Row_ne r4 rF4 (by decide); have hz4 := hloc4.out))
    | (go_at_call 60; go_must (refine (write_part gF gD n n 3 eS eR eW eT _ (ints .u8 D) (some ⟨g4, 0, none⟩) (1 + len1) c4 kn q (10 :: P) 1 ((n : Int) - 1) 1 (.inr ⟨rfl, rfl⟩) hn (by omega) hnm4 hk Hq.out (Nat.le_refl _) (by unfold maxLen; omega) Hcl.out rF4 rD4 hFD (by simp; have := HPl.out; omega) (by simp) (posOwn r4 ht4.out HPl.out hne4)).mono ?_; rintro e v5 ⟨rfl, g', c', cur', rF5, r5, hnm5, hc5, hl5, ht5, k5, hloc5⟩; have K5 := K4.trans k5; have HT := @id (Hid _) ht5; have HLo := @id (Hid _) hloc5; have hne5 := Row_ne r5 rF5 (by decide); clear ht5 hloc5 hl5))
    | (go_at_call 59; go_must (refine (trunc_fail gF kn eS eR eW eT _ (.slice (some ⟨g', 0, none⟩) (n + q) c') 1 ((n : Int) - 1) 1 n rF5).mono ?_; rintro e v6 ⟨rfl, rF6, g6⟩; have r6 := r5.grown g6 (by simpa using hne5); have K6 := K5.trans (Kept.of_grown g6 (fun g e => by cases e; simp))))
    | (go_at_call 17; go_must (refine (join_two v6.heap.size eW eT _ (Row.new v6 54 [er eW, er eT])).mono ?_; rintro e v7 ⟨gJ, gL, cJ, LJ, rfl, rJ, rLL, g7⟩))
    | fail)
  go_ret
  have K7 : Kept [gF, gD] w v7 := (Kept_alloc K6 _).trans (Kept.of_grown g7 (fun _ e => by cases e))
  refine ⟨gJ, gL, cJ, LJ, g', c', cur', rfl, rJ, rLL, (rF6.alloc _).grown g7 (by simp), (r6.alloc _).grown g7 (by simp), ?_, K7, (hLoOf K4 HLo.out)⟩
  rw [HT.out]; exact joinTake HDl.out _

end Go.Proofs.Ybulkdzcs
