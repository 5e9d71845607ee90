import Derived.Test.YbulkdzcsEq
namespace Go.Proofs.Ybulkdzcs
open Go.RowKit Go.Rk
set_option linter.unusedVariables false
set_option linter.unusedSimpArgs false

theorem methSeek (v : Value) (w : World) : (Go.method 258 52 v "Seek").run Yba.prog w = .ok (58, v) w := by kernel_rfl
theorem methRead (v : Value) (w : World) : (Go.method 258 52 v "ReadAt").run Yba.prog w = .ok (57, v) w := by kernel_rfl
theorem methWrite (v : Value) (w : World) : (Go.method 258 52 v "Write").run Yba.prog w = .ok (60, v) w := by kernel_rfl
theorem methTrunc (v : Value) (w : World) : (Go.method 258 52 v "Truncate").run Yba.prog w = .ok (59, v) w := by kernel_rfl
theorem mkByte (w : World) : (Instr.makeSlice 24 (.int .i64 1) (.int .i64 1)).run Yba.prog w = .ok (.slice (some ⟨w.heap.size, 0, none⟩) 1 1) (w.alloc (.cells #[.int .u8 0] 5)) := by kernel_rfl

/-- What is known of the lines that came in. -/
def LinesOk (w : World) (a1 : Option Addr) (len1 cap1 : Nat) (P : List Int) (gF gD : Nat) : Prop :=
  P.length = len1 ∧ len1 ≤ cap1 ∧ (a1 = none → len1 = 0 ∧ cap1 = 0) ∧ ∀ ad, a1 = some ad → ∀ j u, (ints .u8 P)[j]? = some u → w.cell? (ad.add j) = some u ∧ ad.block ≠ gF ∧ ad.block ≠ gD

theorem LinesOk.at {w w' : World} {a1 : Option Addr} {len1 cap1 : Nat} {P : List Int} {gF gD : Nat} (h : LinesOk w a1 len1 cap1 P gF gD) (hk : Kept [gF, gD] w w') :
    ∀ ad, a1 = some ad → ∀ j u, (ints .u8 P)[j]? = some u → w'.cell? (ad.add j) = some u ∧ ad.block ≠ gF := by
  intro ad had j u hj
  obtain ⟨h1, h2, h3⟩ := h.2.2.2 ad had j u hj
  have hlt := block_lt_of_cell h1
  refine ⟨(World.cell?_of_block (hk.block _ hlt ?_)).trans h1, h2⟩
  rw [add_block]
  simp [h2, h3]

theorem Kept_alloc {S : List Nat} {a w : World} (h : Kept S a w) (o : Obj) : Kept S a (w.alloc o) := h.trans (Kept.of_grown (World.grownBy_alloc w o none) (fun _ e => by cases e))

theorem kept3 {gF gD gL : Nat} {w v v3 : World} {o : Obj} (h : Kept [gF, gD] w v) (k : Kept [gF, gL] (v.alloc o) v3) (hg : w.heap.size ≤ gL) : Kept [gF, gD] w v3 :=
  ⟨k.os.trans h.os, k.tape.trans h.tape, k.output.trans h.output, Nat.le_trans h.size (Nat.le_trans (by simp) k.size), fun i hi hs => by
    have h1 := h.block i hi hs
    have hlt : i < v.heap.size := Nat.lt_of_lt_of_le hi h.size
    rw [k.block i (by simp; omega) (by simp at hs ⊢; omega), Below.heap_alloc _ _ _ hlt, h1]⟩

theorem keptNew {S : List Nat} {w v v4 : World} {o : Obj} (h : Kept S w v) (g : (v.alloc o).grownBy v4 (some v.heap.size)) : Kept S w v4 :=
  ⟨g.os.trans h.os, g.tape.trans h.tape, g.output.trans h.output, Nat.le_trans h.size (Nat.le_trans (by simp) g.size), fun i hi hs => by
    have h1 := h.block i hi hs
    have hlt : i < v.heap.size := Nat.lt_of_lt_of_le hi h.size
    rw [g.block i (by simp; omega) (by simp; omega), Below.heap_alloc _ _ _ hlt, h1]⟩

theorem posOwn {v4 : World} {g4 len1 gF : Nat} {cur4 : List Value} {P : List Int} (r4 : Row v4 g4 5 cur4) (ht : cur4.take (1 + len1) = [Value.int .u8 10].take 1 ++ ints .u8 P) (hP : P.length = len1) (hne : g4 ≠ gF) :
    ∀ ad, some (⟨g4, 0, none⟩ : Addr) = some ad → ∀ j u, (ints .u8 (10 :: P))[j]? = some u → v4.cell? (ad.add j) = some u ∧ ad.block ≠ gF := by
  intro ad had j u hj
  cases had
  refine ⟨?_, hne⟩
  have hj2 : cur4[j]? = some u := by
    have hjl := (List.getElem?_eq_some_iff.1 hj).1
    rw [length_ints] at hjl
    have e : cur4.take (1 + len1) = ints .u8 (10 :: P) := by rw [ht]; simp [ints]
    rw [← hj, ← e, List.getElem?_take_of_lt (by simp at hjl; omega)]
  have e : (⟨g4, 0, none⟩ : Addr).add j = ⟨g4, j, none⟩ := by
    unfold Addr.add; split <;> simp_all
  rw [e]; exact r4.cell hj2

theorem hLoOf {S : List Nat} {w v : World} {g' gD : Nat} (h : Kept S w v) (hl : g' = gD ∨ v.heap.size ≤ g') : g' = gD ∨ w.heap.size ≤ g' := by
  rcases hl with h1 | h1
  · exact .inl h1
  · exact .inr (Nat.le_trans h.size h1)

theorem joinTake {D : List Int} {n : Nat} (hD : D.length = n) (P : List Int) : (ints .u8 D).take n ++ ints .u8 P = ints .u8 (D ++ P) := by
  rw [List.take_of_length_le (by rw [length_ints]; omega)]
  simp [ints]

theorem cutTake {D Q : List Int} {n q : Nat} {cur' : List Value} (hD : D.length = n) (h : cur'.take (n + q) = (ints .u8 D).take n ++ ints .u8 Q) : cur'.take n = ints .u8 D := by
  have e : (cur'.take (n + q)).take n = cur'.take n := by rw [List.take_take]; congr 1; omega
  rw [← e, h, joinTake hD]
  have hl : (ints .u8 D).length = n := by rw [length_ints, hD]
  simp only [ints, List.map_append] at hl ⊢
  rw [← hl]
  exact List.take_left

set_option maxHeartbeats 2000000 in
set_option maxRecDepth 100000 in
theorem app_0_ok (gF gD : Nat) (sel : Int) (k : Int) (eS eR eW eT : Nat) (D : List Int) (a1 : Option Addr) (len1 cap1 : Nat) (P : List Int) (w : World) (hn : 0 ≤ 1048576) (hl1 : len1 ≤ 1048576) (hDl : D.length = 0) (hs0 : (sel == 0) = false) (hs2 : (sel == 2) = false) (hs3 : (sel == 3) = false)
    (hF : Row w gF 57 (fl (.slice (some ⟨gD, 0, none⟩) 0 0) sel k eS eR eW eT 0 0 0 0 0 0 0 0 0)) (hD : Row w gD 5 (ints .u8 D)) (hL : LinesOk w a1 len1 cap1 P gF gD) :
    Calls Yba.prog 11 #[.iface 52 (.pointer (some ⟨gF, 0, none⟩)), .slice a1 len1 cap1] w fun e w' => e = .returned .nilIface ∧ ∃ g' c' cur', Row w' gF 57 (fl (.slice (some ⟨g', 0, none⟩) (0 + len1) c') sel k eS eR eW eT 1 0 1 0 0 2 0 0 0) ∧ Row w' g' 5 cur' ∧ cur'.take (0 + len1) = ints .u8 (D ++ P) ∧ Kept [gF, gD] w w' ∧ (g' = gD ∨ w.heap.size ≤ g') := by
  have hFD : gF ≠ gD := Row_ne hF hD (by decide)
  have m1 := methSeek
  have m2 := methRead
  have m3 := methWrite
  have m4 := methTrunc
  have hmb := mkByte
  obtain ⟨i0, hi, hz0, hz1, hz2⟩ := info_parts info5
  have hgF := hF.lt
  have hgD := hD.lt
  have HDl : Hid (D.length = 0) := hDl
  have Hcl : Hid ((ints .u8 D).length = 0) := by show _ = _; rw [length_ints, hDl]
  have HPl : Hid (P.length = len1) := hL.1
  have HIl : Hid ((ints .u8 P).length = len1) := by show _ = _; rw [length_ints, hL.1]
  have Hnone : Hid (a1 = none → len1 = 0 ∧ cap1 = 0) := hL.2.2.1
  have hl1c := hL.2.1
  clear hDl
  go_enter Yba.func11, Yba.ntmps11
  go_wp2_with (first
    | (go_at_call 58; go_must (refine (seek_ok gF gD 0 0 sel k eS eR eW eT _ hs0 hn hF).mono ?_; rintro e v1 ⟨rfl, rF1, g1⟩; have rD1 := hD.grown g1 (by simpa using hFD.symm); have K1 : Kept [gF, gD] w v1 := Kept.of_grown g1 (fun g e => by cases e; simp); have hz1' := K1.size))
    | (go_at_call 60; go_must (refine (write_ok gF gD 0 0 sel k eS eR eW eT _ (ints .u8 D) a1 len1 cap1 P 0 0 0 hs2 hs3 hn (by omega) (Nat.le_refl _) (by unfold maxLen; omega) Hcl.out rF1 rD1 hFD HPl.out Hnone.out (hL.at K1)).mono ?_; rintro e v5 ⟨rfl, g', c', cur', rF5, r5, hnm5, hc5, hl5, ht5, k5, hloc5⟩; have K5 := K1.trans k5; have HT := @id (Hid _) ht5; have HLo := @id (Hid _) hloc5; clear ht5 hloc5 hl5))
    | fail)
  go_ret
  refine ⟨rfl, g', c', cur', rF5, r5, ?_, K5, (hLoOf K1 HLo.out)⟩
  rw [HT.out]; exact joinTake HDl.out _

set_option maxHeartbeats 2000000 in
set_option maxRecDepth 100000 in
theorem app_0_s2 (gF gD : Nat) (kn : Nat) (eS eR eW eT : Nat) (D : List Int) (a1 : Option Addr) (len1 cap1 : Nat) (P : List Int) (w : World) (hn : 0 ≤ 1048576) (hl1 : len1 ≤ 1048576) (hDl : D.length = 0) (q : Nat) (hk : kn ≤ 1048577) (hq : q = min kn len1)
    (hF : Row w gF 57 (fl (.slice (some ⟨gD, 0, none⟩) 0 0) 2 kn eS eR eW eT 0 0 0 0 0 0 0 0 0)) (hD : Row w gD 5 (ints .u8 D)) (hL : LinesOk w a1 len1 cap1 P gF gD) :
    Calls Yba.prog 11 #[.iface 52 (.pointer (some ⟨gF, 0, none⟩)), .slice a1 len1 cap1] w fun e w' => ∃ gJ gL cJ LJ g' c' cur', e = .returned (.iface 84 (.pointer (some ⟨gJ, 0, none⟩))) ∧ Row w' gJ 86 [.slice (some ⟨gL, 0, none⟩) 1 cJ] ∧ Row w' gL 54 (er eW :: LJ) ∧ Row w' gF 57 (fl (.slice (some ⟨g', 0, none⟩) 0 c') 2 kn eS eR eW eT 1 0 1 1 0 2 0 0 (0 : Nat)) ∧ Row w' g' 5 cur' ∧ cur'.take 0 = ints .u8 D ∧ Kept [gF, gD] w w' ∧ (g' = gD ∨ w.heap.size ≤ g') := by
  have hFD : gF ≠ gD := Row_ne hF hD (by decide)
  have m1 := methSeek
  have m2 := methRead
  have m3 := methWrite
  have m4 := methTrunc
  have hmb := mkByte
  obtain ⟨i0, hi, hz0, hz1, hz2⟩ := info_parts info5
  have hgF := hF.lt
  have hgD := hD.lt
  have HDl : Hid (D.length = 0) := hDl
  have Hcl : Hid ((ints .u8 D).length = 0) := by show _ = _; rw [length_ints, hDl]
  have HPl : Hid (P.length = len1) := hL.1
  have HIl : Hid ((ints .u8 P).length = len1) := by show _ = _; rw [length_ints, hL.1]
  have Hnone : Hid (a1 = none → len1 = 0 ∧ cap1 = 0) := hL.2.2.1
  have hl1c := hL.2.1
  have Hq : Hid (q = min kn len1) := hq
  have hqm : q ≤ len1 := by omega
  clear hq
  clear hDl
  go_enter Yba.func11, Yba.ntmps11
  go_wp2_with (first
    | (go_at_call 58; go_must (refine (seek_ok gF gD 0 0 2 kn eS eR eW eT _ rfl hn hF).mono ?_; rintro e v1 ⟨rfl, rF1, g1⟩; have rD1 := hD.grown g1 (by simpa using hFD.symm); have K1 : Kept [gF, gD] w v1 := Kept.of_grown g1 (fun g e => by cases e; simp); have hz1' := K1.size))
    | (go_at_call 60; go_must (refine (write_part gF gD 0 0 2 eS eR eW eT _ (ints .u8 D) a1 len1 cap1 kn q P 0 0 0 (.inl rfl) hn (by omega) hl1c hk Hq.out (Nat.le_refl _) (by unfold maxLen; omega) Hcl.out rF1 rD1 hFD HPl.out Hnone.out (hL.at K1)).mono ?_; rintro e v5 ⟨rfl, g', c', cur', rF5, r5, hnm5, hc5, hl5, ht5, k5, hloc5⟩; have K5 := K1.trans k5; have HT := @id (Hid _) ht5; have HLo := @id (Hid _) hloc5; have hne5 := Row_ne r5 rF5 (by decide); clear ht5 hloc5 hl5))
    | (go_at_call 59; go_must (refine (trunc_ok gF 0 2 kn eS eR eW eT _ g' (0 + q) c' 0 0 0 rfl (by omega) (by omega) hnm5 rF5).mono ?_; rintro e v6 ⟨rfl, rF6, g6⟩; have r6 := r5.grown g6 (by simpa using hne5); have K6 := K5.trans (Kept.of_grown g6 (fun g e => by cases e; simp))))
    | (go_at_call 17; go_must (refine (join_one v6.heap.size eW _ (Row.new v6 54 [er eW, .nilIface])).mono ?_; rintro e v7 ⟨gJ, gL, cJ, LJ, rfl, rJ, rLL, g7⟩))
    | fail)
  go_ret
  have K7 : Kept [gF, gD] w v7 := (Kept_alloc K6 _).trans (Kept.of_grown g7 (fun _ e => by cases e))
  refine ⟨gJ, gL, cJ, LJ, g', c', cur', rfl, rJ, rLL, (rF6.alloc _).grown g7 (by simp), (r6.alloc _).grown g7 (by simp), ?_, K7, (hLoOf K1 HLo.out)⟩
  exact cutTake HDl.out HT.out

set_option maxHeartbeats 2000000 in
set_option maxRecDepth 100000 in
theorem app_0_s3 (gF gD : Nat) (kn : Nat) (eS eR eW eT : Nat) (D : List Int) (a1 : Option Addr) (len1 cap1 : Nat) (P : List Int) (w : World) (hn : 0 ≤ 1048576) (hl1 : len1 ≤ 1048576) (hDl : D.length = 0) (q : Nat) (hk : kn ≤ 1048577) (hq : q = min kn len1)
    (hF : Row w gF 57 (fl (.slice (some ⟨gD, 0, none⟩) 0 0) 3 kn eS eR eW eT 0 0 0 0 0 0 0 0 0)) (hD : Row w gD 5 (ints .u8 D)) (hL : LinesOk w a1 len1 cap1 P gF gD) :
    Calls Yba.prog 11 #[.iface 52 (.pointer (some ⟨gF, 0, none⟩)), .slice a1 len1 cap1] w fun e w' => ∃ gJ gL cJ LJ g' c' cur', e = .returned (.iface 84 (.pointer (some ⟨gJ, 0, none⟩))) ∧ Row w' gJ 86 [.slice (some ⟨gL, 0, none⟩) 2 cJ] ∧ Row w' gL 54 (er eW :: er eT :: LJ) ∧ Row w' gF 57 (fl (.slice (some ⟨g', 0, none⟩) (0 + q) c') 3 kn eS eR eW eT 1 0 1 1 0 2 0 0 (0 : Nat)) ∧ Row w' g' 5 cur' ∧ cur'.take (0 + q) = ints .u8 (D ++ P.take q) ∧ Kept [gF, gD] w w' ∧ (g' = gD ∨ w.heap.size ≤ g') := by
  have hFD : gF ≠ gD := Row_ne hF hD (by decide)
  have m1 := methSeek
  have m2 := methRead
  have m3 := methWrite
  have m4 := methTrunc
  have hmb := mkByte
  obtain ⟨i0, hi, hz0, hz1, hz2⟩ := info_parts info5
  have hgF := hF.lt
  have hgD := hD.lt
  have HDl : Hid (D.length = 0) := hDl
  have Hcl : Hid ((ints .u8 D).length = 0) := by show _ = _; rw [length_ints, hDl]
  have HPl : Hid (P.length = len1) := hL.1
  have HIl : Hid ((ints .u8 P).length = len1) := by show _ = _; rw [length_ints, hL.1]
  have Hnone : Hid (a1 = none → len1 = 0 ∧ cap1 = 0) := hL.2.2.1
  have hl1c := hL.2.1
  have Hq : Hid (q = min kn len1) := hq
  have hqm : q ≤ len1 := by omega
  clear hq
  clear hDl
  go_enter Yba.func11, Yba.ntmps11
  go_wp2_with (first
    | (go_at_call 58; go_must (refine (seek_ok gF gD 0 0 3 kn eS eR eW eT _ rfl hn hF).mono ?_; rintro e v1 ⟨rfl, rF1, g1⟩; have rD1 := hD.grown g1 (by simpa using hFD.symm); have K1 : Kept [gF, gD] w v1 := Kept.of_grown g1 (fun g e => by cases e; simp); have hz1' := K1.size))
    | (go_at_call 60; go_must (refine (write_part gF gD 0 0 3 eS eR eW eT _ (ints .u8 D) a1 len1 cap1 kn q P 0 0 0 (.inr ⟨rfl, rfl⟩) hn (by omega) hl1c hk Hq.out (Nat.le_refl _) (by unfold maxLen; omega) Hcl.out rF1 rD1 hFD HPl.out Hnone.out (hL.at K1)).mono ?_; rintro e v5 ⟨rfl, g', c', cur', rF5, r5, hnm5, hc5, hl5, ht5, k5, hloc5⟩; have K5 := K1.trans k5; have HT := @id (Hid _) ht5; have HLo := @id (Hid _) hloc5; have hne5 := Row_ne r5 rF5 (by decide); clear ht5 hloc5 hl5))
    | (go_at_call 59; go_must (refine (trunc_fail gF kn eS eR eW eT _ (.slice (some ⟨g', 0, none⟩) (0 + q) c') 0 0 0 0 rF5).mono ?_; rintro e v6 ⟨rfl, rF6, g6⟩; have r6 := r5.grown g6 (by simpa using hne5); have K6 := K5.trans (Kept.of_grown g6 (fun g e => by cases e; simp))))
    | (go_at_call 17; go_must (refine (join_two v6.heap.size eW eT _ (Row.new v6 54 [er eW, er eT])).mono ?_; rintro e v7 ⟨gJ, gL, cJ, LJ, rfl, rJ, rLL, g7⟩))
    | fail)
  go_ret
  have K7 : Kept [gF, gD] w v7 := (Kept_alloc K6 _).trans (Kept.of_grown g7 (fun _ e => by cases e))
  refine ⟨gJ, gL, cJ, LJ, g', c', cur', rfl, rJ, rLL, (rF6.alloc _).grown g7 (by simp), (r6.alloc _).grown g7 (by simp), ?_, K7, (hLoOf K1 HLo.out)⟩
  rw [HT.out]; exact joinTake HDl.out _

set_option maxHeartbeats 2000000 in
set_option maxRecDepth 100000 in
theorem app_1_ok (gF gD : Nat) (n : Nat) (sel : Int) (k : Int) (eS eR eW eT : Nat) (D : List Int) (a1 : Option Addr) (len1 cap1 : Nat) (P : List Int) (w : World) (hn : n ≤ 1048576) (hl1 : len1 ≤ 1048576) (hDl : D.length = n) (h0 : 0 < n) (b : Int) (hlast : D.getD (n - 1) 0 = b) (hb : (b != 10) = false) (hs0 : (sel == 0) = false) (hs1 : (sel == 1) = false) (hs2 : (sel == 2) = false) (hs3 : (sel == 3) = false)
    (hF : Row w gF 57 (fl (.slice (some ⟨gD, 0, none⟩) n n) sel k eS eR eW eT 0 0 0 0 0 0 0 0 0)) (hD : Row w gD 5 (ints .u8 D)) (hL : LinesOk w a1 len1 cap1 P gF gD) :
    Calls Yba.prog 11 #[.iface 52 (.pointer (some ⟨gF, 0, none⟩)), .slice a1 len1 cap1] w fun e w' => e = .returned .nilIface ∧ ∃ g' c' cur', Row w' gF 57 (fl (.slice (some ⟨g', 0, none⟩) (n + len1) c') sel k eS eR eW eT 1 1 1 0 0 2 ((n : Int) - 1) 1 0) ∧ Row w' g' 5 cur' ∧ cur'.take (n + len1) = ints .u8 (D ++ P) ∧ Kept [gF, gD] w w' ∧ (g' = gD ∨ w.heap.size ≤ g') := by
  have hFD : gF ≠ gD := Row_ne hF hD (by decide)
  have m1 := methSeek
  have m2 := methRead
  have m3 := methWrite
  have m4 := methTrunc
  have hmb := mkByte
  obtain ⟨i0, hi, hz0, hz1, hz2⟩ := info_parts info5
  have hgF := hF.lt
  have hgD := hD.lt
  have HDl : Hid (D.length = n) := hDl
  have Hcl : Hid ((ints .u8 D).length = n) := by show _ = _; rw [length_ints, hDl]
  have HPl : Hid (P.length = len1) := hL.1
  have HIl : Hid ((ints .u8 P).length = len1) := by show _ = _; rw [length_ints, hL.1]
  have Hnone : Hid (a1 = none → len1 = 0 ∧ cap1 = 0) := hL.2.2.1
  have hl1c := hL.2.1
  have Hlast : Hid ((ints .u8 D)[n - 1]? = some (.int .u8 b)) := by show _ = _; rw [Rk.ints_at _ _ _ (by omega), hlast]
  clear hlast
  clear hDl
  go_enter Yba.func11, Yba.ntmps11
  go_wp2_with (first
    | (go_at_call 58; go_must (refine (seek_ok gF gD n n sel k eS eR eW eT _ hs0 hn hF).mono ?_; rintro e v1 ⟨rfl, rF1, g1⟩; have rD1 := hD.grown g1 (by simpa using hFD.symm); have K1 : Kept [gF, gD] w v1 := Kept.of_grown g1 (fun g e => by cases e; simp); have hz1' := K1.size))
    | (go_at_call 57; go_must (refine (read_ok gF gD n n sel k eS eR eW eT _ v1.heap.size (ints .u8 D) b hs1 hn h0 (Nat.le_refl n) (rF1.alloc _) (rD1.alloc _) Hlast.out (Row.new v1 5 [.int .u8 0]) hFD (by omega) (by omega)).mono ?_; rintro e v3 ⟨rfl, rF3, rL3, k3⟩; have q0 := rL3.cell (k := 0) (v := .int .u8 b) rfl; have rD3 := (rD1.alloc (.cells #[.int .u8 0] 5)).kept k3 (by simp; omega); have K3 : Kept [gF, gD] w v3 := kept3 K1 k3 (by omega)))
    | (go_at_call 60; go_must (refine (write_ok gF gD n n sel k eS eR eW eT _ (ints .u8 D) a1 len1 cap1 P 1 ((n : Int) - 1) 1 hs2 hs3 hn (by omega) (Nat.le_refl _) (by unfold maxLen; omega) Hcl.out rF3 rD3 hFD HPl.out Hnone.out (hL.at K3)).mono ?_; rintro e v5 ⟨rfl, g', c', cur', rF5, r5, hnm5, hc5, hl5, ht5, k5, hloc5⟩; have K5 := K3.trans k5; have HT := @id (Hid _) ht5; have HLo := @id (Hid _) hloc5; clear ht5 hloc5 hl5))
    | fail)
  go_ret
  refine ⟨rfl, g', c', cur', rF5, r5, ?_, K5, (hLoOf K3 HLo.out)⟩
  rw [HT.out]; exact joinTake HDl.out _

end Go.Proofs.Ybulkdzcs
