import Derived.Test.YbulkdzcsJoin
import Derived.ProofKit
import Derived.OpenShut
import Derived.Deep.QuietTactic
import Derived.BigQuiet
import Derived.Deep.RegionLaw
namespace Go.Proofs.Ybulkdzcs
open Go.RowKit Go.Rk
set_option linter.unusedVariables false
set_option linter.unusedSimpArgs false

/-- The stand-in file's sixteen cells. -/
abbrev fl (d : Value) (sel k : Int) (eS eR eW eT : Nat) (n7 n8 n9 n10 n11 n12 n13 n14 n15 : Int) : List Value :=
  [d, .int .u8 sel, .int .i64 k, er eS, er eR, er eW, er eT, .int .i64 n7, .int .i64 n8, .int .i64 n9, .int .i64 n10, .int .i64 n11, .int .i64 n12, .int .i64 n13, .int .i64 n14, .int .i64 n15]

theorem set3 (w : World) (g a b c : Nat) (x y z : Value) : w.grownBy (((w.setCell ⟨g, a, none⟩ x).setCell ⟨g, b, none⟩ y).setCell ⟨g, c, none⟩ z) (some g) :=
  ((grownBy_setCell _ _ _ _).trans (grownBy_setCell _ _ _ _)).trans (grownBy_setCell _ _ _ _)
theorem set2 (w : World) (g a b : Nat) (x y : Value) : w.grownBy ((w.setCell ⟨g, a, none⟩ x).setCell ⟨g, b, none⟩ y) (some g) :=
  (grownBy_setCell _ _ _ _).trans (grownBy_setCell _ _ _ _)

theorem Row_ne {w : World} {g g' : Nat} {t t' : TypeId} {L L' : List Value} (h : Row w g t L) (h' : Row w g' t' L') (hne : t ≠ t') : g ≠ g' := by
  rintro rfl
  have e : some (Obj.cells L.toArray t (0, 0)) = some (.cells L'.toArray t' (0, 0)) := h.symm.trans h'
  injection e with e
  injection e with _ e
  exact hne e

theorem grown_of_drew {w w' : World} {r : Option Nat} (h : w.drew.grownBy w' r) : w.grownBy w' r := ⟨h.os, h.tape, h.output, h.size, h.block⟩

section
variable (gF gD n c : Nat) (sel k : Int) (eS eR eW eT : Nat) (w : World)

set_option maxHeartbeats 1000000 in
set_option maxRecDepth 100000 in
theorem seek_fail (hF : Row w gF 57 (fl (.slice (some ⟨gD, 0, none⟩) n c) 0 k eS eR eW eT 0 0 0 0 0 0 0 0 0)) :
    Calls Yba.prog 58 #[.pointer (some ⟨gF, 0, none⟩), .int .i64 0, .int .i64 2] w fun e w' =>
      e = .returned (.tuple #[.int .i64 0, er eS]) ∧ Row w' gF 57 (fl (.slice (some ⟨gD, 0, none⟩) n c) 0 k eS eR eW eT 1 0 0 0 0 2 0 0 0) ∧ w.grownBy w' (some gF) := by
  have c1 := hF.cell (k := 1) rfl
  have c3 : w.cell? ⟨gF, 3, none⟩ = some (.iface 63 (.pointer (some ⟨eS, 0, none⟩))) := hF.cell (k := 3) rfl
  have c7 := hF.cell (k := 7) rfl
  have c11 := hF.cell (k := 11) rfl
  have c12 := hF.cell (k := 12) rfl
  have f7 := hF.free 7
  have f11 := hF.free 11
  have f12 := hF.free 12
  go_enter Yba.func58, Yba.ntmps58
  go_wp2
  go_region
  all_goals (try go_wp2)
  all_goals
    go_ret2
    exact ⟨rfl, ((hF.setCell 7 _).setCell 11 _).setCell 12 _, grown_drew (set3 _ _ _ _ _ _ _ _)⟩

set_option maxHeartbeats 1000000 in
set_option maxRecDepth 100000 in
theorem seek_ok (hs : (sel == 0) = false) (hn : n ≤ 1048576) (hF : Row w gF 57 (fl (.slice (some ⟨gD, 0, none⟩) n c) sel k eS eR eW eT 0 0 0 0 0 0 0 0 0)) :
    Calls Yba.prog 58 #[.pointer (some ⟨gF, 0, none⟩), .int .i64 0, .int .i64 2] w fun e w' =>
      e = .returned (.tuple #[.int .i64 n, .nilIface]) ∧ Row w' gF 57 (fl (.slice (some ⟨gD, 0, none⟩) n c) sel k eS eR eW eT 1 0 0 0 0 2 0 0 0) ∧ w.grownBy w' (some gF) := by
  have c0 := hF.cell (k := 0) rfl
  have c1 := hF.cell (k := 1) rfl
  have c7 := hF.cell (k := 7) rfl
  have c11 := hF.cell (k := 11) rfl
  have c12 := hF.cell (k := 12) rfl
  have f7 := hF.free 7
  have f11 := hF.free 11
  have f12 := hF.free 12
  go_enter Yba.func58, Yba.ntmps58
  go_wp2
  go_ret2
  exact ⟨rfl, ((hF.setCell 7 _).setCell 11 _).setCell 12 _, set3 _ _ _ _ _ _ _ _⟩

set_option maxHeartbeats 1000000 in
set_option maxRecDepth 100000 in
theorem read_fail (gL : Nat) (_hn : n ≤ 1048576) (_h0 : 0 < n) (hF : Row w gF 57 (fl (.slice (some ⟨gD, 0, none⟩) n c) 1 k eS eR eW eT 1 0 0 0 0 2 0 0 0)) :
    Calls Yba.prog 57 #[.pointer (some ⟨gF, 0, none⟩), .slice (some ⟨gL, 0, none⟩) 1 1, .int .i64 ((n : Int) - 1)] w fun e w' =>
      e = .returned (.tuple #[.int .i64 0, er eR]) ∧ Row w' gF 57 (fl (.slice (some ⟨gD, 0, none⟩) n c) 1 k eS eR eW eT 1 1 0 0 0 2 (n - 1) 1 0) ∧ w.grownBy w' (some gF) := by
  have c1 := hF.cell (k := 1) rfl
  have c4 : w.cell? ⟨gF, 4, none⟩ = some (.iface 63 (.pointer (some ⟨eR, 0, none⟩))) := hF.cell (k := 4) rfl
  have c8 := hF.cell (k := 8) rfl
  have c13 := hF.cell (k := 13) rfl
  have c14 := hF.cell (k := 14) rfl
  have f8 := hF.free 8
  have f13 := hF.free 13
  have f14 := hF.free 14
  go_enter Yba.func57, Yba.ntmps57
  go_wp2
  go_region
  all_goals (try go_wp2)
  all_goals
    go_ret2
    exact ⟨rfl, ((hF.setCell 8 _).setCell 13 _).setCell 14 _, grown_drew (set3 _ _ _ _ _ _ _ _)⟩

theorem info5 : (Yba.prog.info? 5).map (fun i => (i.zero, i.size, i.bytes)) = some (some (.int .u8 0), 1, 1) := by kernel_rfl
theorem size5 : (Yba.prog.info? 5).map (·.size) = some 1 := by kernel_rfl

set_option maxHeartbeats 1000000 in
set_option maxRecDepth 100000 in
theorem read_ok (gL : Nat) (cur : List Value) (b : Int) (hs : (sel == 1) = false) (hn : n ≤ 1048576) (h0 : 0 < n) (hnc : n ≤ c) (hF : Row w gF 57 (fl (.slice (some ⟨gD, 0, none⟩) n c) sel k eS eR eW eT 1 0 0 0 0 2 0 0 0))
    (hD : Row w gD 5 cur) (hlast : cur[n - 1]? = some (.int .u8 b)) (hL : Row w gL 5 [.int .u8 0]) (hFD : gF ≠ gD) (hFL : gF ≠ gL) (hDL : gD ≠ gL) :
    Calls Yba.prog 57 #[.pointer (some ⟨gF, 0, none⟩), .slice (some ⟨gL, 0, none⟩) 1 1, .int .i64 ((n : Int) - 1)] w fun e w' =>
      e = .returned (.tuple #[.int .i64 1, .nilIface]) ∧ Row w' gF 57 (fl (.slice (some ⟨gD, 0, none⟩) n c) sel k eS eR eW eT 1 1 0 0 0 2 (n - 1) 1 0) ∧ Row w' gL 5 [.int .u8 b] ∧ Kept [gF, gL] w w' := by
  have c0 := hF.cell (k := 0) rfl
  have c1 := hF.cell (k := 1) rfl
  have c8 := hF.cell (k := 8) rfl
  have c13 := hF.cell (k := 13) rfl
  have c14 := hF.cell (k := 14) rfl
  have f8 := hF.free 8
  have f13 := hF.free 13
  have f14 := hF.free 14
  have rF := ((hF.setCell 8 (.int .i64 1)).setCell 13 (.int .i64 ((n : Int) - 1))).setCell 14 (.int .i64 1)
  have g1 := set3 w gF 8 13 14 (.int .i64 1) (.int .i64 ((n : Int) - 1)) (.int .i64 1)
  have rL := hL.grown g1 (by simp; omega)
  have rD := hD.grown g1 (by simp; omega)
  have Hmin : Hid ([Value.int .u8 b].length = Nat.min (n - (n - 1)) 1) := by show _ = _; rw [show n - (n - 1) = 1 from by omega]; rfl
  have HP : Hid (0 < [Value.int .u8 b].length → ∃ ad, some (⟨gD, n - 1, none⟩ : Addr) = some ad ∧ ∀ j v, [Value.int .u8 b][j]? = some v → (((w.setCell ⟨gF, 8, none⟩ (.int .i64 1)).setCell ⟨gF, 13, none⟩ (.int .i64 ((n : Int) - 1))).setCell ⟨gF, 14, none⟩ (.int .i64 1)).cell? (ad.add j) = some v) := by
    intro _
    refine ⟨_, rfl, fun j v hj => ?_⟩
    match j, hj with
    | 0, hj => simp at hj; subst hj; simpa [Addr.add] using rD.cell hlast
  go_enter Yba.func57, Yba.ntmps57
  go_wp2_with (first
    | (with_reducible refine at_copy (.tmp 49) (.tmp 55) ?_; go_must (refine law_copy rfl (.tmp 49) (.tmp 55) 24 24 rfl 5 Yba.underlying24 size5 gL 0 _ _ _ _ _ rfl rfl [.int .u8 0] 5 rL [.int .u8 b] Hmin.out HP.out (by simp) (by simp [Value.oneCell']) ?_; intro v2 r2 s2 g2))
    | fail)
  go_ret2
  exact ⟨rfl, rF.grown g2 (by simpa using hFL), r2, (Kept.of_grown g1 (fun g e => by cases e; simp)).trans (Kept.of_grown g2 (fun g e => by cases e; simp))⟩

set_option maxHeartbeats 1000000 in
set_option maxRecDepth 100000 in
theorem write_ok (cur : List Value) (ao : Option Addr) (m cm : Nat) (P : List Int) (r8 r13 r14 : Int) (hs2 : (sel == 2) = false) (hs3 : (sel == 3) = false) (hn : n ≤ 1048576) (hm : m ≤ 1048577) (hnc : n ≤ c) (hcm : c ≤ maxLen) (hcl : cur.length = c)
    (hF : Row w gF 57 (fl (.slice (some ⟨gD, 0, none⟩) n c) sel k eS eR eW eT 1 r8 0 0 0 2 r13 r14 0))
    (hD : Row w gD 5 cur) (hFD : gF ≠ gD) (hP : P.length = m) (hno : ao = none → m = 0 ∧ cm = 0) (hpos : ∀ ad, ao = some ad → ∀ j u, (ints .u8 P)[j]? = some u → w.cell? (ad.add j) = some u ∧ ad.block ≠ gF) :
    Calls Yba.prog 60 #[.pointer (some ⟨gF, 0, none⟩), .slice ao m cm] w fun e w' =>
      e = .returned (.tuple #[.int .i64 m, .nilIface]) ∧ ∃ g' c' cur', Row w' gF 57 (fl (.slice (some ⟨g', 0, none⟩) (n + m) c') sel k eS eR eW eT 1 r8 1 0 0 2 r13 r14 0) ∧ Row w' g' 5 cur' ∧ n + m ≤ c' ∧ c' ≤ maxLen ∧ cur'.length = c' ∧
        cur'.take (n + m) = cur.take n ++ ints .u8 P ∧ Kept [gF, gD] w w' ∧ (g' = gD ∨ w.heap.size ≤ g') := by
  obtain ⟨i0, hi, hz0, hz1, hz2⟩ := info_parts info5
  have c0 := hF.cell (k := 0) rfl
  have c1 := hF.cell (k := 1) rfl
  have c9 := hF.cell (k := 9) rfl
  have f9 := hF.free 9
  have rF := hF.setCell 9 (.int .i64 1)
  have g1 := grownBy_setCell w gF 9 (.int .i64 1)
  have rD := hD.grown g1 (by simp; omega)
  have HL : Hid ((ints .u8 P).length = m) := by show _ = _; rw [length_ints, hP]
  have HP : Hid (∀ ad, ao = some ad → ∀ j u, (ints .u8 P)[j]? = some u → (w.setCell ⟨gF, 9, none⟩ (.int .i64 1)).cell? (ad.add j) = some u) := by
    intro ad had j u hj
    have := hpos ad had j u hj
    exact g1.cell this.1 (by rw [add_block]; simpa using this.2)
  have Hcl : Hid (cur.length = c) := hcl
  have hsz : (w.setCell ⟨gF, 9, none⟩ (.int .i64 1)).heap.size = w.heap.size := by simp [World.setCell]
  have Hsz : Hid ((w.setCell ⟨gF, 9, none⟩ (.int .i64 1)).heap.size = w.heap.size) := hsz
  have Hm : Hid (n + m ≤ maxLen) := by show _ ≤ _; unfold maxLen; omega
  clear hcl hsz hP hpos
  go_enter Yba.func60, Yba.ntmps60
  go_wp2_with (first
    | (at_builtin; go_must (refine law_append rfl (.tmp 58) (.tmp 59) 24 rfl 5 i0 (.int .u8 0) 1 Yba.underlying24 hi hz0 hz1 hz2 rfl gD n c cur rfl rD hnc hcm Hcl.out ao m cm (ints .u8 P) rfl HL.out hno HP.out (ints_one _ _) Hm.out (by omega) ?_; intro g' c' cur' v2 r2 hnm hc' hl' ht' g2 hloc; have rF2 := rF.grown g2 (by simpa using hFD); have q0 := rF2.cell (k := 0) (v := .slice (some ⟨gD, 0, none⟩) n c) rfl; have q0f := rF2.free 0))
    | fail)
  go_ret2
  have hne : g' ≠ gF := Row_ne r2 rF2 (by decide)
  refine ⟨rfl, g', c', cur', rF2.setCell 0 _, r2.setOther _ hne _, hnm, hc'.out, hl'.out, ht'.out, ?_, ?_⟩
  · exact ((Kept.of_grown g1 (fun g e => by cases e; simp)).trans (Kept.of_grown g2 (fun g e => by cases e; simp))).setCell gF 0 (by simp) _
  · rcases hloc.out with h | h
    · exact .inl h
    · exact .inr (by rw [h, Hsz.out]; exact Nat.le_refl _)

set_option maxHeartbeats 1000000 in
set_option maxRecDepth 100000 in
theorem write_part (cur : List Value) (ao : Option Addr) (m cm kn q : Nat) (P : List Int) (r8 r13 r14 : Int) (hs : (sel == 2) = true ∨ ((sel == 2) = false ∧ (sel == 3) = true)) (hn : n ≤ 1048576) (hm : m ≤ 1048577) (hmc : m ≤ cm) (hk : kn ≤ 1048577) (hq : q = min kn m) (hnc : n ≤ c) (hcm : c ≤ maxLen) (hcl : cur.length = c)
    (hF : Row w gF 57 (fl (.slice (some ⟨gD, 0, none⟩) n c) sel kn eS eR eW eT 1 r8 0 0 0 2 r13 r14 0))
    (hD : Row w gD 5 cur) (hFD : gF ≠ gD) (hP : P.length = m) (hno : ao = none → m = 0 ∧ cm = 0) (hpos : ∀ ad, ao = some ad → ∀ j u, (ints .u8 P)[j]? = some u → w.cell? (ad.add j) = some u ∧ ad.block ≠ gF) :
    Calls Yba.prog 60 #[.pointer (some ⟨gF, 0, none⟩), .slice ao m cm] w fun e w' =>
      e = .returned (.tuple #[.int .i64 q, er eW]) ∧ ∃ g' c' cur', Row w' gF 57 (fl (.slice (some ⟨g', 0, none⟩) (n + q) c') sel kn eS eR eW eT 1 r8 1 0 0 2 r13 r14 0) ∧ Row w' g' 5 cur' ∧ n + q ≤ c' ∧ c' ≤ maxLen ∧ cur'.length = c' ∧
        cur'.take (n + q) = cur.take n ++ ints .u8 (P.take q) ∧ Kept [gF, gD] w w' ∧ (g' = gD ∨ w.heap.size ≤ g') := by
  obtain ⟨i0, hi, hz0, hz1, hz2⟩ := info_parts info5
  have c0 := hF.cell (k := 0) rfl
  have c1 := hF.cell (k := 1) rfl
  have c2 := hF.cell (k := 2) rfl
  have c5 : w.cell? ⟨gF, 5, none⟩ = some (.iface 63 (.pointer (some ⟨eW, 0, none⟩))) := hF.cell (k := 5) rfl
  have c9 := hF.cell (k := 9) rfl
  have f9 := hF.free 9
  have rF := hF.setCell 9 (.int .i64 1)
  have g1 := grownBy_setCell w gF 9 (.int .i64 1)
  have rD := hD.grown g1 (by simp; omega)
  have HL : Hid ((ints .u8 (P.take q)).length = q) := by show _ = _; rw [length_ints, List.length_take, hP]; omega
  have HP : Hid (∀ ad, ao = some ad → ∀ j u, (ints .u8 (P.take q))[j]? = some u → (w.setCell ⟨gF, 9, none⟩ (.int .i64 1)).cell? (ad.add j) = some u) := by
    intro ad had j u hj
    have hj' : (ints .u8 P)[j]? = some u := by
      have hjl := (List.getElem?_eq_some_iff.1 hj).1
      rw [HL.out] at hjl
      rw [← hj]
      simp [ints, List.getElem?_take, hjl]
    have := hpos ad had j u hj'
    exact g1.cell this.1 (by rw [add_block]; simpa using this.2)
  have Hcl : Hid (cur.length = c) := hcl
  have hsz : (w.setCell ⟨gF, 9, none⟩ (.int .i64 1)).heap.size = w.heap.size := by simp [World.setCell]
  have Hsz : Hid ((w.setCell ⟨gF, 9, none⟩ (.int .i64 1)).heap.size = w.heap.size) := hsz
  have Hm : Hid (n + q ≤ maxLen) := by show _ ≤ _; unfold maxLen; omega
  have Hno : Hid (ao = none → q = 0 ∧ cm = 0) := fun h => ⟨by have := (hno h).1; omega, (hno h).2⟩
  have Hq : Hid (q = min kn m) := hq
  clear hcl hsz hP hpos hq hno
  generalize HW : w.setCell ⟨gF, 9, none⟩ (.int .i64 1) = W1 at *
  have d0 : W1.cell? ⟨gF, 0, none⟩ = some (.slice (some ⟨gD, 0, none⟩) n c) := rF.cell (k := 0) rfl
  have d1 : W1.cell? ⟨gF, 1, none⟩ = some (.int .u8 sel) := rF.cell (k := 1) rfl
  have d2 : W1.cell? ⟨gF, 2, none⟩ = some (.int .i64 kn) := rF.cell (k := 2) rfl
  have d0f := rF.free 0
  have rDd := rD.drew
  have HPd : Hid (∀ ad, ao = some ad → ∀ j u, (ints .u8 (P.take q))[j]? = some u → W1.drew.cell? (ad.add j) = some u) := HP
  rcases hs with hs | ⟨hs, hs3⟩
  · by_cases hkm : m < kn
    · have e : q = m := by have := Hq.out; omega
      subst e
      clear Hq
      have hqc : q ≤ cm := by omega
      go_enter Yba.func60, Yba.ntmps60
      go_wp2
      go_region_law (refine step_append rfl (.tmp 42) (.tmp 45) 24 rfl 5 i0 (.int .u8 0) 1 Yba.underlying24 hi hz0 hz1 hz2 rfl gD n c cur (by simp [Act.eval, Act.put]) rDd hnc hcm Hcl.out ao q cm (ints .u8 (P.take q)) (by simp [Act.eval, Act.put]) HL.out Hno.out HPd.out (ints_one _ _) Hm.out (by omega) ?_; intro g' c' cur' v2 r2 hnm hc' hl' ht' g2 hloc; have rF2 := rF.drew.grown g2 (by simpa using hFD); have q0 := rF2.cell (k := 0) (v := .slice (some ⟨gD, 0, none⟩) n c) rfl; have q0f := rF2.free 0)
      have rF3 := rF2.setCell 0 (.slice (some ⟨g', 0, none⟩) (n + q) c')
      have q5 : (v2.setCell ⟨gF, 0, none⟩ (.slice (some ⟨g', 0, none⟩) (n + q) c')).cell? ⟨gF, 5, none⟩ = some (.iface 63 (.pointer (some ⟨eW, 0, none⟩))) := rF3.cell (k := 5) rfl
      have hne : g' ≠ gF := Row_ne r2 rF2 (by decide)
      have r3 := r2.setOther ⟨gF, 0, none⟩ hne (.slice (some ⟨g', 0, none⟩) (n + q) c')
      have K3 : Kept [gF, gD] w (v2.setCell ⟨gF, 0, none⟩ (.slice (some ⟨g', 0, none⟩) (n + q) c')) := ((Kept.of_grown g1 (fun g e => by cases e; simp)).trans (Kept.of_grown (grown_of_drew g2) (fun g e => by cases e; simp))).setCell gF 0 (by simp) _
      have hl3 : g' = gD ∨ w.heap.size ≤ g' := by
        rcases hloc.out with h | h
        · exact .inl h
        · exact .inr (by rw [h, ← Hsz.out]; exact Nat.le_refl _)
      have HL3 := @id (Hid _) hl3
      clear hloc hl3
      generalize v2.setCell ⟨gF, 0, none⟩ (.slice (some ⟨g', 0, none⟩) (n + q) c') = v3 at *
      go_wp2
      go_region
      all_goals (try go_wp2)
      all_goals
        go_ret2
        exact ⟨rfl, g', c', cur', rF3, r3, hnm, hc'.out, hl'.out, ht'.out, K3.drew, HL3.out⟩
    · have e : q = kn := by have := Hq.out; omega
      subst e
      clear Hq
      have hqc : q ≤ cm := by omega
      go_enter Yba.func60, Yba.ntmps60
      go_wp2
      go_region_law (refine step_append rfl (.tmp 42) (.tmp 45) 24 rfl 5 i0 (.int .u8 0) 1 Yba.underlying24 hi hz0 hz1 hz2 rfl gD n c cur (by simp [Act.eval, Act.put]) rDd hnc hcm Hcl.out ao q cm (ints .u8 (P.take q)) (by simp [Act.eval, Act.put]) HL.out Hno.out HPd.out (ints_one _ _) Hm.out (by omega) ?_; intro g' c' cur' v2 r2 hnm hc' hl' ht' g2 hloc; have rF2 := rF.drew.grown g2 (by simpa using hFD); have q0 := rF2.cell (k := 0) (v := .slice (some ⟨gD, 0, none⟩) n c) rfl; have q0f := rF2.free 0)
      have rF3 := rF2.setCell 0 (.slice (some ⟨g', 0, none⟩) (n + q) c')
      have q5 : (v2.setCell ⟨gF, 0, none⟩ (.slice (some ⟨g', 0, none⟩) (n + q) c')).cell? ⟨gF, 5, none⟩ = some (.iface 63 (.pointer (some ⟨eW, 0, none⟩))) := rF3.cell (k := 5) rfl
      have hne : g' ≠ gF := Row_ne r2 rF2 (by decide)
      have r3 := r2.setOther ⟨gF, 0, none⟩ hne (.slice (some ⟨g', 0, none⟩) (n + q) c')
      have K3 : Kept [gF, gD] w (v2.setCell ⟨gF, 0, none⟩ (.slice (some ⟨g', 0, none⟩) (n + q) c')) := ((Kept.of_grown g1 (fun g e => by cases e; simp)).trans (Kept.of_grown (grown_of_drew g2) (fun g e => by cases e; simp))).setCell gF 0 (by simp) _
      have hl3 : g' = gD ∨ w.heap.size ≤ g' := by
        rcases hloc.out with h | h
        · exact .inl h
        · exact .inr (by rw [h, ← Hsz.out]; exact Nat.le_refl _)
      have HL3 := @id (Hid _) hl3
      clear hloc hl3
      generalize v2.setCell ⟨gF, 0, none⟩ (.slice (some ⟨g', 0, none⟩) (n + q) c') = v3 at *
      go_wp2
      go_region
      all_goals (try go_wp2)
      all_goals
        go_ret2
        exact ⟨rfl, g', c', cur', rF3, r3, hnm, hc'.out, hl'.out, ht'.out, K3.drew, HL3.out⟩
  · by_cases hkm : m < kn
    · have e : q = m := by have := Hq.out; omega
      subst e
      clear Hq
      have hqc : q ≤ cm := by omega
      go_enter Yba.func60, Yba.ntmps60
      go_wp2
      go_region_law (refine step_append rfl (.tmp 42) (.tmp 45) 24 rfl 5 i0 (.int .u8 0) 1 Yba.underlying24 hi hz0 hz1 hz2 rfl gD n c cur (by simp [Act.eval, Act.put]) rDd hnc hcm Hcl.out ao q cm (ints .u8 (P.take q)) (by simp [Act.eval, Act.put]) HL.out Hno.out HPd.out (ints_one _ _) Hm.out (by omega) ?_; intro g' c' cur' v2 r2 hnm hc' hl' ht' g2 hloc; have rF2 := rF.drew.grown g2 (by simpa using hFD); have q0 := rF2.cell (k := 0) (v := .slice (some ⟨gD, 0, none⟩) n c) rfl; have q0f := rF2.free 0)
      have rF3 := rF2.setCell 0 (.slice (some ⟨g', 0, none⟩) (n + q) c')
      have q5 : (v2.setCell ⟨gF, 0, none⟩ (.slice (some ⟨g', 0, none⟩) (n + q) c')).cell? ⟨gF, 5, none⟩ = some (.iface 63 (.pointer (some ⟨eW, 0, none⟩))) := rF3.cell (k := 5) rfl
      have hne : g' ≠ gF := Row_ne r2 rF2 (by decide)
      have r3 := r2.setOther ⟨gF, 0, none⟩ hne (.slice (some ⟨g', 0, none⟩) (n + q) c')
      have K3 : Kept [gF, gD] w (v2.setCell ⟨gF, 0, none⟩ (.slice (some ⟨g', 0, none⟩) (n + q) c')) := ((Kept.of_grown g1 (fun g e => by cases e; simp)).trans (Kept.of_grown (grown_of_drew g2) (fun g e => by cases e; simp))).setCell gF 0 (by simp) _
      have hl3 : g' = gD ∨ w.heap.size ≤ g' := by
        rcases hloc.out with h | h
        · exact .inl h
        · exact .inr (by rw [h, ← Hsz.out]; exact Nat.le_refl _)
      have HL3 := @id (Hid _) hl3
      clear hloc hl3
      generalize v2.setCell ⟨gF, 0, none⟩ (.slice (some ⟨g', 0, none⟩) (n + q) c') = v3 at *
      go_wp2
      go_region
      all_goals (try go_wp2)
      all_goals
        go_ret2
        exact ⟨rfl, g', c', cur', rF3, r3, hnm, hc'.out, hl'.out, ht'.out, K3.drew, HL3.out⟩
    · have e : q = kn := by have := Hq.out; omega
      subst e
      clear Hq
      have hqc : q ≤ cm := by omega
      go_enter Yba.func60, Yba.ntmps60
      go_wp2
      go_region_law (refine step_append rfl (.tmp 42) (.tmp 45) 24 rfl 5 i0 (.int .u8 0) 1 Yba.underlying24 hi hz0 hz1 hz2 rfl gD n c cur (by simp [Act.eval, Act.put]) rDd hnc hcm Hcl.out ao q cm (ints .u8 (P.take q)) (by simp [Act.eval, Act.put]) HL.out Hno.out HPd.out (ints_one _ _) Hm.out (by omega) ?_; intro g' c' cur' v2 r2 hnm hc' hl' ht' g2 hloc; have rF2 := rF.drew.grown g2 (by simpa using hFD); have q0 := rF2.cell (k := 0) (v := .slice (some ⟨gD, 0, none⟩) n c) rfl; have q0f := rF2.free 0)
      have rF3 := rF2.setCell 0 (.slice (some ⟨g', 0, none⟩) (n + q) c')
      have q5 : (v2.setCell ⟨gF, 0, none⟩ (.slice (some ⟨g', 0, none⟩) (n + q) c')).cell? ⟨gF, 5, none⟩ = some (.iface 63 (.pointer (some ⟨eW, 0, none⟩))) := rF3.cell (k := 5) rfl
      have hne : g' ≠ gF := Row_ne r2 rF2 (by decide)
      have r3 := r2.setOther ⟨gF, 0, none⟩ hne (.slice (some ⟨g', 0, none⟩) (n + q) c')
      have K3 : Kept [gF, gD] w (v2.setCell ⟨gF, 0, none⟩ (.slice (some ⟨g', 0, none⟩) (n + q) c')) := ((Kept.of_grown g1 (fun g e => by cases e; simp)).trans (Kept.of_grown (grown_of_drew g2) (fun g e => by cases e; simp))).setCell gF 0 (by simp) _
      have hl3 : g' = gD ∨ w.heap.size ≤ g' := by
        rcases hloc.out with h | h
        · exact .inl h
        · exact .inr (by rw [h, ← Hsz.out]; exact Nat.le_refl _)
      have HL3 := @id (Hid _) hl3
      clear hloc hl3
      generalize v2.setCell ⟨gF, 0, none⟩ (.slice (some ⟨g', 0, none⟩) (n + q) c') = v3 at *
      go_wp2
      go_region
      all_goals (try go_wp2)
      all_goals
        go_ret2
        exact ⟨rfl, g', c', cur', rF3, r3, hnm, hc'.out, hl'.out, ht'.out, K3.drew, HL3.out⟩

set_option maxHeartbeats 1000000 in
set_option maxRecDepth 100000 in
theorem trunc_fail (d : Value) (r8 r13 r14 : Int) (sz : Nat) (hF : Row w gF 57 (fl d 3 k eS eR eW eT 1 r8 1 0 0 2 r13 r14 0)) :
    Calls Yba.prog 59 #[.pointer (some ⟨gF, 0, none⟩), .int .i64 sz] w fun e w' =>
      e = .returned (er eT) ∧ Row w' gF 57 (fl d 3 k eS eR eW eT 1 r8 1 1 0 2 r13 r14 sz) ∧ w.grownBy w' (some gF) := by
  have c1 := hF.cell (k := 1) rfl
  have c6 : w.cell? ⟨gF, 6, none⟩ = some (.iface 63 (.pointer (some ⟨eT, 0, none⟩))) := hF.cell (k := 6) rfl
  have c10 := hF.cell (k := 10) rfl
  have c15 := hF.cell (k := 15) rfl
  have f10 := hF.free 10
  have f15 := hF.free 15
  go_enter Yba.func59, Yba.ntmps59
  go_wp2
  go_ret
  exact ⟨rfl, (hF.setCell 10 _).setCell 15 _, set2 _ _ _ _ _ _⟩

set_option maxHeartbeats 1000000 in
set_option maxRecDepth 100000 in
theorem trunc_ok (g' m c' : Nat) (r8 r13 r14 : Int) (hs : (sel == 3) = false) (hn : n ≤ m) (hm : m ≤ 4194304) (hc : m ≤ c') (hF : Row w gF 57 (fl (.slice (some ⟨g', 0, none⟩) m c') sel k eS eR eW eT 1 r8 1 0 0 2 r13 r14 0)) :
    Calls Yba.prog 59 #[.pointer (some ⟨gF, 0, none⟩), .int .i64 n] w fun e w' =>
      e = .returned .nilIface ∧ Row w' gF 57 (fl (.slice (some ⟨g', 0, none⟩) n c') sel k eS eR eW eT 1 r8 1 1 0 2 r13 r14 n) ∧ w.grownBy w' (some gF) := by
  have c0 := hF.cell (k := 0) rfl
  have c1 := hF.cell (k := 1) rfl
  have c10 := hF.cell (k := 10) rfl
  have c15 := hF.cell (k := 15) rfl
  have f0 := hF.free 0
  have f10 := hF.free 10
  have f15 := hF.free 15
  have hnc : n ≤ c' := by omega
  go_enter Yba.func59, Yba.ntmps59
  go_wp2
  go_ret
  exact ⟨rfl, ((hF.setCell 10 _).setCell 15 _).setCell 0 _, set3 _ _ _ _ _ _ _ _⟩
end
end Go.Proofs.Ybulkdzcs
