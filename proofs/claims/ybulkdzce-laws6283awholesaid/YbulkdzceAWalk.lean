import Derived.Test.YbulkdzceRows
import Derived.Test.YbulkdzceKit
import Derived.Test.YbulkdzceShow
import Derived.WalkKit
import Derived.ProofKit
import Derived.OpenShut
import Derived.WalkSpells
namespace Go.Proofs.Ybulkdzce
open Go.RowKit Go.Rk

theorem Yba.info33 : (Yba.prog.info? 33).map (fun i => (i.zero, i.size, i.bytes)) = some (some (.int .u32 0), 1, 4) := by kernel_rfl
theorem size33 : (Yba.prog.info? 33).map (·.size) = some 1 := by kernel_rfl


/-- The cells of '&Member{self: self, shown: ..}'. -/
theorem memB (self : Int) (sp : Option Addr) (n c : Nat) : (Yba.prog.built 53 [(0, .int .i64 self), (10, .slice sp n c)]).map (fun C => (C.toList[0]?, C.toList[18]?)) = some (some (.int .i64 self), some (.slice sp n c)) := by kernel_rfl
theorem memBuilt (self : Int) (sp : Option Addr) (n c : Nat) : ∃ C : Array Value, Yba.prog.built 53 [(0, .int .i64 self), (10, .slice sp n c)] = some C ∧ C.toList[0]? = some (.int .i64 self) ∧ C.toList[18]? = some (.slice sp n c) := by
  obtain ⟨C, h1, h2⟩ := Option.map_eq_some_iff.1 (memB self sp n c)
  exact ⟨C, h1, congrArg Prod.fst h2, congrArg Prod.snd h2⟩

theorem splice_all {α : Type} (Z X : List α) (h : X.length = Z.length) : splice Z 0 X = X := by
  simp [splice, h]

theorem splice_pad (n : Nat) (S : List Int) : splice (List.replicate n (Value.int .u32 0)) 0 (ints .u32 S) = ints .u32 (S ++ List.replicate (n - S.length) 0) := by
  simp [splice, ints]

theorem shwTo_end {A B : List Int} {src self : Int} {W : List Int} (h : ShwTo A B src self A.length W) (k : Nat) (hk : k < B.length) : W.getD k 0 = shw A B src self k := by
  rw [h.2 k hk]
  by_cases e : k < A.length
  · rw [if_pos e]
  · rw [if_neg e, shw, if_neg (fun hh => e hh.1)]

set_option maxHeartbeats 2000000 in
set_option maxRecDepth 100000 in
theorem walk_gt (x : Addr) (len0 cap0 : Nat) (z0 : List Int) (a1 : Option Addr) (len1 cap1 : Nat) (z1 : List Int) (a2 : Int) (a3 : Int) (w : World) (w0 : IsRow .u32 w (some x) len0 cap0 z0) (w1 : IsRow .u32 w a1 len1 cap1 z1)
    (hl0 : len0 ≤ 1048576) (hl1 : len1 ≤ 1048576) (hgt : len1 < len0) :
    Calls Yba.prog 3 #[.slice (some x) len0 cap0, .slice a1 len1 cap1, .int .i64 a2, .int .i64 a3] w fun e w' => e = .returned (.bool true) ∧ Below w.heap.size w w' := by
  obtain ⟨i0, hi, hz0, hz1, hz2⟩ := info_parts Yba.info33
  obtain ⟨S, hS⟩ : ∃ S, S = z1.take len1 := ⟨_, rfl⟩
  obtain ⟨A, hA⟩ : ∃ A, A = z0.take len0 := ⟨_, rfl⟩
  have hSl : Hid (S.length = len1) := by rw [hS]; exact w1.lenEq
  have hAl : Hid (A.length = len0) := by rw [hA]; exact w0.lenEq
  obtain ⟨B, hB⟩ : ∃ B, B = S ++ List.replicate (len0 - S.length) 0 := ⟨_, rfl⟩
  have hBl : Hid (B.length = len0) := by show _ = _; rw [hB]; have := hSl.out; simp; omega
  have hSmin : Hid ((ints .u32 S).length = Nat.min len1 len0) := by show _ = _; rw [length_ints, hSl.out]; exact (Nat.min_eq_left (by omega)).symm
  have hAmin : Hid ((ints .u32 A).length = Nat.min len0 len0) := by show _ = _; rw [length_ints, hAl.out]; exact (Nat.min_self _).symm
  have hfit : Hid (0 + (ints .u32 S).length ≤ (List.replicate len0 (Value.int .u32 0)).length) := by show _ ≤ _; rw [length_ints, hSl.out]; simp; omega
  have hfitA : Hid (0 + (ints .u32 A).length ≤ (List.replicate len0 (Value.int .u32 0)).length) := by show _ ≤ _; rw [length_ints, hAl.out]; simp
  have HS : Hid (∀ w', Below w.heap.size w w' → 0 < (ints .u32 S).length → ∃ ad, a1 = some ad ∧ ∀ j v, (ints .u32 S)[j]? = some v → w'.cell? (ad.add j) = some v) := by rw [hS]; exact fun w' hb => w1.pos hb
  have HA : Hid (∀ w', Below w.heap.size w w' → 0 < (ints .u32 A).length → ∃ ad, some x = some ad ∧ ∀ j v, (ints .u32 A)[j]? = some v → w'.cell? (ad.add j) = some v) := by rw [hA]; exact fun w' hb => w0.pos hb
  have HX : Hid (∀ w', Below w.heap.size w w' → ∀ i, i < len0 → w'.cell? (x.add i) = some (.int .u32 (A.getD i 0)) ∧ x.block < w.heap.size) := by rw [hA]; exact fun w' hb i h => w0.at hb rfl i h
  have hspS : Hid (splice (List.replicate len0 (Value.int .u32 0)) 0 (ints .u32 S) = ints .u32 B) := by rw [hB]; exact splice_pad _ _
  have hspA : Hid (splice (List.replicate len0 (Value.int .u32 0)) 0 (ints .u32 A) = ints .u32 A) := splice_all _ _ (by rw [length_ints, hAl.out]; simp)
  have hne : ∀ v n c w, (binOp .neq 22 (.slice (some v) n c) (.slice none 0 0)).run Yba.prog w = .ok (.bool true) w := fun v n c w => run_neq_slice_nil_any w 22 33 (some v) n c 0 0 Yba.underlying22
  have heq : ∀ v n c w, (binOp .eql 22 (.slice (some v) n c) (.slice none 0 0)).run Yba.prog w = .ok (.bool false) w := fun v n c w => Lib.run_eql_slice_nil w 22 33 (some v) n c 0 0 Yba.underlying22
  clear hS hA hB
  go_enter Yba.func3, Yba.ntmps3
  go_wp2_with (first
    | (at_make; refine law_make rfl (.tmp 33) (.tmp 33) 22 rfl 33 i0 (.int .u32 0) 4 Yba.underlying22 hi hz0 hz1 hz2 rfl .i64 .i64 _ _ len0 len0 rfl rfl rfl rfl (Nat.le_refl _) (by omega) (by unfold maxLen; omega) ?_; intro g1 v1 e1 r1 s1 b1; have B1 : Below w.heap.size w v1 := (Below.refl _ _).grown b1 (Nat.le_refl _) (fun k hk => by cases hk))
    | (with_reducible refine at_copy (.tmp 35) (.tmp 36) ?_; refine law_copy rfl (.tmp 35) (.tmp 36) 22 22 rfl 33 Yba.underlying22 size33 g1 0 _ _ _ _ _ rfl rfl (List.replicate len0 (.int .u32 0)) 33 r1 (ints .u32 S) hSmin.out (HS.out _ B1) hfit.out (ints_one _ _) ?_; intro v2 r2 s2 b2; rw [hspS.out] at r2; have B2 : Below w.heap.size w v2 := B1.grown b2 B1.size (fun k hk => by cases hk; exact Nat.le_of_eq e1.out.symm))
    | (at_make; refine law_make rfl (.tmp 38) (.tmp 38) 22 rfl 33 i0 (.int .u32 0) 4 Yba.underlying22 hi hz0 hz1 hz2 rfl .i64 .i64 _ _ len0 len0 rfl rfl rfl rfl (Nat.le_refl _) (by omega) (by unfold maxLen; omega) ?_; intro g2 v3 e2 r3 s3 b3; have B3 : Below w.heap.size w v3 := B2.grown b3 B2.size (fun k hk => by cases hk))
    | (with_reducible refine at_copy (.tmp 40) (.tmp 41) ?_; refine law_copy rfl (.tmp 40) (.tmp 41) 22 22 rfl 33 Yba.underlying22 size33 g2 0 _ _ _ _ _ rfl rfl (List.replicate len0 (.int .u32 0)) 33 r3 (ints .u32 S) hSmin.out (HS.out _ B3) hfit.out (ints_one _ _) ?_; intro v4 r4 s4 b4; rw [hspS.out] at r4; have B4 : Below w.heap.size w v4 := B3.grown b4 B3.size (fun k hk => by cases hk; rw [e2.out]; exact B2.size))
    | (at_make; refine law_make rfl (.tmp 46) (.tmp 46) 22 rfl 33 i0 (.int .u32 0) 4 Yba.underlying22 hi hz0 hz1 hz2 rfl .i64 .i64 _ _ len0 len0 rfl rfl rfl rfl (Nat.le_refl _) (by omega) (by unfold maxLen; omega) ?_; intro g3 v5 e3 r5 s5 b5; have B5 : Below w.heap.size w v5 := B4.grown b5 B4.size (fun k hk => by cases hk))
    | (with_reducible refine at_copy (.tmp 48) (.tmp 49) ?_; refine law_copy rfl (.tmp 48) (.tmp 49) 22 22 rfl 33 Yba.underlying22 size33 g3 0 _ _ _ _ _ rfl rfl (List.replicate len0 (.int .u32 0)) 33 r5 (ints .u32 A) hAmin.out (HA.out _ B5) hfitA.out (ints_one _ _) ?_; intro v6 r6 s6 b6; rw [hspA.out] at r6; have B6 : Below w.heap.size w v6 := B5.grown b6 B5.size (fun k hk => by cases hk; rw [e3.out]; exact B4.size))
    | (with_reducible refine at_build 53 ?_; go_must (obtain ⟨mc, mb, m0, m18⟩ := memBuilt a3 (some ⟨g2, 0, none⟩) len0 len0; refine law_build rfl 53 _ rfl [(0, .int .i64 a3), (10, .slice (some ⟨g2, 0, none⟩) len0 len0)] rfl _ mb ?_; clear mb))
    | fail)
  have E1 : g1 < g2 := by have := e1.out; have := s1.out; have := s2.out; have := e2.out; omega
  have E2 : g2 < g3 := by have := e2.out; have := s3.out; have := s4.out; have := e3.out; omega
  have E3 : g3 < v6.heap.size := by have := s5.out; have := s6.out; omega
  have E0 : w.heap.size ≤ g1 := Nat.le_of_eq e1.out.symm
  have rM : Row (v6.alloc (.cells mc 53)) v6.heap.size 53 mc.toList := Row.newA v6 53 mc
  have r4' : Row v6 g2 33 (ints .u32 B) := (r4.grown b5 (by simp)).grown b6 (by simp; omega)
  have r2' : Row v6 g1 33 (ints .u32 B) := (((r2.grown b3 (by simp)).grown b4 (by simp; omega)).grown b5 (by simp)).grown b6 (by simp; omega)
  have B7 : Below w.heap.size w (v6.alloc (.cells mc 53)) := B6.alloc B6.size _
  clear r1 r3 r5 b1 b2 b3 b4 b5 b6 e1 e2 e3 s1 s2 s3 s4 s5 s6 B1 B2 B3 B4 B5 hspS hspA hSmin hAmin HS HA hfit hfitA hi hz0 hz1 hz2 r4 r2
  refine (show_any v6.heap.size g2 (some x) len0 cap0 len0 A B a2 a3 _ (by simp) hAl.out hBl.out (by omega) (by omega) ?_ ?_ ?_ ?_ ?_).mono ?_
  · exact rM.cell m18
  · exact rM.cell m0
  · intro y hy
    cases hy
    intro i hi
    have := HX.out _ B7 i hi
    exact ⟨this.1, by omega⟩
  · omega
  · exact r4'.alloc _
  rintro e v7 ⟨rfl, ⟨W, hW, rW⟩, b7⟩
  have B8 : Below w.heap.size w v7 := B7.grown b7 B7.size (fun k hk => by cases hk; omega)
  have rM' : Row v7 v6.heap.size 53 mc.toList := rM.grown b7 (by simp; omega)
  have rB : Row v7 g1 33 (ints .u32 B) := (r2'.alloc _).grown b7 (by simp; omega)
  have rA : Row v7 g3 33 (ints .u32 A) := (r6.alloc _).grown b7 (by simp; omega)
  have hc0 : v7.cell? ⟨v6.heap.size, 0, none⟩ = some (.int .i64 a3) := rM'.cell m0
  have hc18 : v7.cell? ⟨v6.heap.size, 18, none⟩ = some (.slice (some ⟨g2, 0, none⟩) len0 len0) := rM'.cell m18
  clear rM r4' r2' B7 b7 r6 B6
  go_wp2
  go_loop [14, 15] (fun i _ => ∃ k : Nat, k ≤ len0 ∧ i = .int .i64 k) (fun i _ => len0 - (intOf i).toNat)
  case atStart => exact ⟨0, Nat.zero_le _, rfl⟩
  case round =>
    obtain ⟨k, hk, rfl⟩ := hrel
    by_cases hlt : k < len0
    · have hkB : k < B.length := by have := hBl.out; omega
      obtain ⟨bv, hbv⟩ : ∃ bv, bv = B.getD k 0 := ⟨_, rfl⟩
      obtain ⟨wv, hwv⟩ : ∃ wv, wv = W.getD k 0 := ⟨_, rfl⟩
      have hcB : v7.cell? ⟨g1, k, none⟩ = some (.int .u32 bv) := by rw [hbv]; exact rB.cell (Rk.ints_at _ _ _ hkB)
      have hcW : v7.cell? ⟨g2, k, none⟩ = some (.int .u32 wv) := by rw [hwv]; exact rW.cell (Rk.ints_at _ _ _ (by have := hW.1; omega))
      have hww : Hid (wv = shw A B a2 a3 k) := by show _ = _; rw [hwv]; exact shwTo_end (by rw [hAl.out]; exact hW) k hkB
      have Hbv : Hid (bv = B.getD k 0) := hbv
      clear hbv hwv
      by_cases h0 : k < len0
      · obtain ⟨av, hav⟩ : ∃ av, av = A.getD k 0 := ⟨_, rfl⟩
        have hcA : v7.cell? ⟨g3, k, none⟩ = some (.int .u32 av) := by rw [hav]; exact rA.cell (Rk.ints_at _ _ _ (by have := hAl.out; omega))
        have Hav : Hid (av = A.getD k 0) := hav
        clear hav
        by_cases h2 : (k : Int) = a2
        · have h2' : ((k : Int) != a2) = false := by simpa using h2
          have hwb : wv = bv := by rw [hww.out, Hbv.out, shw, if_neg (fun hh => hh.2.2.1 h2)]
          subst hwb
          clear h2
          go_wp2
          go_round
          case rel => exact ⟨k + 1, by omega, by go_num⟩
          case measure => simp [intOf]; omega
        · have h2' : ((k : Int) != a2) = true := by simpa using h2
          by_cases h3 : (k : Int) = a3
          · have h3' : ((k : Int) != a3) = false := by simpa using h3
            have hwb : wv = bv := by rw [hww.out, Hbv.out, shw, if_neg (fun hh => hh.2.2.2 h3)]
            subst hwb
            clear h3
            go_wp2
            go_round
            case rel => exact ⟨k + 1, by omega, by go_num⟩
            case measure => simp [intOf]; omega
          · have h3' : ((k : Int) != a3) = true := by simpa using h3
            by_cases h1 : bv < av
            · have hwb : wv = av := by rw [hww.out, Hav.out, shw, if_pos ⟨by have := hAl.out; omega, by rw [← Hbv.out, ← Hav.out]; exact h1, h2, h3⟩]
              subst hwb
              go_wp2
              go_round
              case rel => exact ⟨k + 1, by omega, by go_num⟩
              case measure => simp [intOf]; omega
            · have hwb : wv = bv := by rw [hww.out, Hbv.out, shw, if_neg (fun hh => h1 (by rw [Hbv.out, Hav.out]; exact hh.2.1))]
              subst hwb
              go_wp2
              go_round
              case rel => exact ⟨k + 1, by omega, by go_num⟩
              case measure => simp [intOf]; omega
      · exact absurd hlt h0
    · go_wp2
      go_loopw [16] (fun i wr => ∃ k : Nat, k ≤ len0 ∧ i = .int .i64 k ∧ Below w.heap.size w wr ∧ Row wr g3 33 (ints .u32 A)) (fun i _ => len0 - (intOf i).toNat)
      case atStart => exact ⟨0, Nat.zero_le _, rfl, B8, rA⟩
      case round =>
        obtain ⟨j, hj, rfl, hbr, rAr⟩ := hrel
        by_cases hjl : j < len0
        · obtain ⟨av, hav⟩ : ∃ av, av = A.getD j 0 := ⟨_, rfl⟩
          have hcA : wr.cell? ⟨g3, j, none⟩ = some (.int .u32 av) := by rw [hav]; exact rAr.cell (Rk.ints_at _ _ _ (by have := hAl.out; omega))
          have hcX : wr.cell? (x.add j) = some (.int .u32 av) := by rw [hav]; exact (HX.out wr hbr j hjl).1
          have hd := hbr.drew
          have rd := rAr.drew
          clear hav
          go_wp2
          go_region
          all_goals (try go_wp2)
          all_goals
            go_roundw
            case rel => exact ⟨j + 1, by omega, by go_num, hd, rd⟩
            case measure => simp [intOf]; omega
        · go_wp2
          go_ret
          exact ⟨rfl, hbr⟩

set_option maxHeartbeats 2000000 in
set_option maxRecDepth 100000 in
theorem walk_le (x : Addr) (len0 cap0 : Nat) (z0 : List Int) (a1 : Option Addr) (len1 cap1 : Nat) (z1 : List Int) (a2 : Int) (a3 : Int) (w : World) (w0 : IsRow .u32 w (some x) len0 cap0 z0) (w1 : IsRow .u32 w a1 len1 cap1 z1)
    (hl0 : len0 ≤ 1048576) (hl1 : len1 ≤ 1048576) (hle : len0 ≤ len1) :
    Calls Yba.prog 3 #[.slice (some x) len0 cap0, .slice a1 len1 cap1, .int .i64 a2, .int .i64 a3] w fun e w' => e = .returned (.bool true) ∧ Below w.heap.size w w' := by
  obtain ⟨i0, hi, hz0, hz1, hz2⟩ := info_parts Yba.info33
  obtain ⟨S, hS⟩ : ∃ S, S = z1.take len1 := ⟨_, rfl⟩
  obtain ⟨A, hA⟩ : ∃ A, A = z0.take len0 := ⟨_, rfl⟩
  have hSl : Hid (S.length = len1) := by rw [hS]; exact w1.lenEq
  have hAl : Hid (A.length = len0) := by rw [hA]; exact w0.lenEq
  obtain ⟨B, hB⟩ : ∃ B, B = S ++ List.replicate (len1 - S.length) 0 := ⟨_, rfl⟩
  have hBl : Hid (B.length = len1) := by show _ = _; rw [hB]; have := hSl.out; simp; omega
  have hSmin : Hid ((ints .u32 S).length = Nat.min len1 len1) := by show _ = _; rw [length_ints, hSl.out]; exact (Nat.min_eq_left (by omega)).symm
  have hAmin : Hid ((ints .u32 A).length = Nat.min len0 len0) := by show _ = _; rw [length_ints, hAl.out]; exact (Nat.min_self _).symm
  have hfit : Hid (0 + (ints .u32 S).length ≤ (List.replicate len1 (Value.int .u32 0)).length) := by show _ ≤ _; rw [length_ints, hSl.out]; simp
  have hfitA : Hid (0 + (ints .u32 A).length ≤ (List.replicate len0 (Value.int .u32 0)).length) := by show _ ≤ _; rw [length_ints, hAl.out]; simp
  have HS : Hid (∀ w', Below w.heap.size w w' → 0 < (ints .u32 S).length → ∃ ad, a1 = some ad ∧ ∀ j v, (ints .u32 S)[j]? = some v → w'.cell? (ad.add j) = some v) := by rw [hS]; exact fun w' hb => w1.pos hb
  have HA : Hid (∀ w', Below w.heap.size w w' → 0 < (ints .u32 A).length → ∃ ad, some x = some ad ∧ ∀ j v, (ints .u32 A)[j]? = some v → w'.cell? (ad.add j) = some v) := by rw [hA]; exact fun w' hb => w0.pos hb
  have HX : Hid (∀ w', Below w.heap.size w w' → ∀ i, i < len0 → w'.cell? (x.add i) = some (.int .u32 (A.getD i 0)) ∧ x.block < w.heap.size) := by rw [hA]; exact fun w' hb i h => w0.at hb rfl i h
  have hspS : Hid (splice (List.replicate len1 (Value.int .u32 0)) 0 (ints .u32 S) = ints .u32 B) := by rw [hB]; exact splice_pad _ _
  have hspA : Hid (splice (List.replicate len0 (Value.int .u32 0)) 0 (ints .u32 A) = ints .u32 A) := splice_all _ _ (by rw [length_ints, hAl.out]; simp)
  have hne : ∀ v n c w, (binOp .neq 22 (.slice (some v) n c) (.slice none 0 0)).run Yba.prog w = .ok (.bool true) w := fun v n c w => run_neq_slice_nil_any w 22 33 (some v) n c 0 0 Yba.underlying22
  have heq : ∀ v n c w, (binOp .eql 22 (.slice (some v) n c) (.slice none 0 0)).run Yba.prog w = .ok (.bool false) w := fun v n c w => Lib.run_eql_slice_nil w 22 33 (some v) n c 0 0 Yba.underlying22
  clear hS hA hB
  go_enter Yba.func3, Yba.ntmps3
  go_wp2_with (first
    | (at_make; refine law_make rfl (.tmp 33) (.tmp 33) 22 rfl 33 i0 (.int .u32 0) 4 Yba.underlying22 hi hz0 hz1 hz2 rfl .i64 .i64 _ _ len1 len1 rfl rfl rfl rfl (Nat.le_refl _) (by omega) (by unfold maxLen; omega) ?_; intro g1 v1 e1 r1 s1 b1; have B1 : Below w.heap.size w v1 := (Below.refl _ _).grown b1 (Nat.le_refl _) (fun k hk => by cases hk))
    | (with_reducible refine at_copy (.tmp 35) (.tmp 36) ?_; refine law_copy rfl (.tmp 35) (.tmp 36) 22 22 rfl 33 Yba.underlying22 size33 g1 0 _ _ _ _ _ rfl rfl (List.replicate len1 (.int .u32 0)) 33 r1 (ints .u32 S) hSmin.out (HS.out _ B1) hfit.out (ints_one _ _) ?_; intro v2 r2 s2 b2; rw [hspS.out] at r2; have B2 : Below w.heap.size w v2 := B1.grown b2 B1.size (fun k hk => by cases hk; exact Nat.le_of_eq e1.out.symm))
    | (at_make; refine law_make rfl (.tmp 38) (.tmp 38) 22 rfl 33 i0 (.int .u32 0) 4 Yba.underlying22 hi hz0 hz1 hz2 rfl .i64 .i64 _ _ len1 len1 rfl rfl rfl rfl (Nat.le_refl _) (by omega) (by unfold maxLen; omega) ?_; intro g2 v3 e2 r3 s3 b3; have B3 : Below w.heap.size w v3 := B2.grown b3 B2.size (fun k hk => by cases hk))
    | (with_reducible refine at_copy (.tmp 40) (.tmp 41) ?_; refine law_copy rfl (.tmp 40) (.tmp 41) 22 22 rfl 33 Yba.underlying22 size33 g2 0 _ _ _ _ _ rfl rfl (List.replicate len1 (.int .u32 0)) 33 r3 (ints .u32 S) hSmin.out (HS.out _ B3) hfit.out (ints_one _ _) ?_; intro v4 r4 s4 b4; rw [hspS.out] at r4; have B4 : Below w.heap.size w v4 := B3.grown b4 B3.size (fun k hk => by cases hk; rw [e2.out]; exact B2.size))
    | (at_make; refine law_make rfl (.tmp 46) (.tmp 46) 22 rfl 33 i0 (.int .u32 0) 4 Yba.underlying22 hi hz0 hz1 hz2 rfl .i64 .i64 _ _ len0 len0 rfl rfl rfl rfl (Nat.le_refl _) (by omega) (by unfold maxLen; omega) ?_; intro g3 v5 e3 r5 s5 b5; have B5 : Below w.heap.size w v5 := B4.grown b5 B4.size (fun k hk => by cases hk))
    | (with_reducible refine at_copy (.tmp 48) (.tmp 49) ?_; refine law_copy rfl (.tmp 48) (.tmp 49) 22 22 rfl 33 Yba.underlying22 size33 g3 0 _ _ _ _ _ rfl rfl (List.replicate len0 (.int .u32 0)) 33 r5 (ints .u32 A) hAmin.out (HA.out _ B5) hfitA.out (ints_one _ _) ?_; intro v6 r6 s6 b6; rw [hspA.out] at r6; have B6 : Below w.heap.size w v6 := B5.grown b6 B5.size (fun k hk => by cases hk; rw [e3.out]; exact B4.size))
    | (with_reducible refine at_build 53 ?_; go_must (obtain ⟨mc, mb, m0, m18⟩ := memBuilt a3 (some ⟨g2, 0, none⟩) len1 len1; refine law_build rfl 53 _ rfl [(0, .int .i64 a3), (10, .slice (some ⟨g2, 0, none⟩) len1 len1)] rfl _ mb ?_; clear mb))
    | fail)
  have E1 : g1 < g2 := by have := e1.out; have := s1.out; have := s2.out; have := e2.out; omega
  have E2 : g2 < g3 := by have := e2.out; have := s3.out; have := s4.out; have := e3.out; omega
  have E3 : g3 < v6.heap.size := by have := s5.out; have := s6.out; omega
  have E0 : w.heap.size ≤ g1 := Nat.le_of_eq e1.out.symm
  have rM : Row (v6.alloc (.cells mc 53)) v6.heap.size 53 mc.toList := Row.newA v6 53 mc
  have r4' : Row v6 g2 33 (ints .u32 B) := (r4.grown b5 (by simp)).grown b6 (by simp; omega)
  have r2' : Row v6 g1 33 (ints .u32 B) := (((r2.grown b3 (by simp)).grown b4 (by simp; omega)).grown b5 (by simp)).grown b6 (by simp; omega)
  have B7 : Below w.heap.size w (v6.alloc (.cells mc 53)) := B6.alloc B6.size _
  clear r1 r3 r5 b1 b2 b3 b4 b5 b6 e1 e2 e3 s1 s2 s3 s4 s5 s6 B1 B2 B3 B4 B5 hspS hspA hSmin hAmin HS HA hfit hfitA hi hz0 hz1 hz2 r4 r2
  refine (show_any v6.heap.size g2 (some x) len0 cap0 len1 A B a2 a3 _ (by simp) hAl.out hBl.out (by omega) (by omega) ?_ ?_ ?_ ?_ ?_).mono ?_
  · exact rM.cell m18
  · exact rM.cell m0
  · intro y hy
    cases hy
    intro i hi
    have := HX.out _ B7 i hi
    exact ⟨this.1, by omega⟩
  · omega
  · exact r4'.alloc _
  rintro e v7 ⟨rfl, ⟨W, hW, rW⟩, b7⟩
  have B8 : Below w.heap.size w v7 := B7.grown b7 B7.size (fun k hk => by cases hk; omega)
  have rM' : Row v7 v6.heap.size 53 mc.toList := rM.grown b7 (by simp; omega)
  have rB : Row v7 g1 33 (ints .u32 B) := (r2'.alloc _).grown b7 (by simp; omega)
  have rA : Row v7 g3 33 (ints .u32 A) := (r6.alloc _).grown b7 (by simp; omega)
  have hc0 : v7.cell? ⟨v6.heap.size, 0, none⟩ = some (.int .i64 a3) := rM'.cell m0
  have hc18 : v7.cell? ⟨v6.heap.size, 18, none⟩ = some (.slice (some ⟨g2, 0, none⟩) len1 len1) := rM'.cell m18
  clear rM r4' r2' B7 b7 r6 B6
  go_wp2
  go_loop [14, 15] (fun i _ => ∃ k : Nat, k ≤ len1 ∧ i = .int .i64 k) (fun i _ => len1 - (intOf i).toNat)
  case atStart => exact ⟨0, Nat.zero_le _, rfl⟩
  case round =>
    obtain ⟨k, hk, rfl⟩ := hrel
    by_cases hlt : k < len1
    · have hkB : k < B.length := by have := hBl.out; omega
      obtain ⟨bv, hbv⟩ : ∃ bv, bv = B.getD k 0 := ⟨_, rfl⟩
      obtain ⟨wv, hwv⟩ : ∃ wv, wv = W.getD k 0 := ⟨_, rfl⟩
      have hcB : v7.cell? ⟨g1, k, none⟩ = some (.int .u32 bv) := by rw [hbv]; exact rB.cell (Rk.ints_at _ _ _ hkB)
      have hcW : v7.cell? ⟨g2, k, none⟩ = some (.int .u32 wv) := by rw [hwv]; exact rW.cell (Rk.ints_at _ _ _ (by have := hW.1; omega))
      have hww : Hid (wv = shw A B a2 a3 k) := by show _ = _; rw [hwv]; exact shwTo_end (by rw [hAl.out]; exact hW) k hkB
      have Hbv : Hid (bv = B.getD k 0) := hbv
      clear hbv hwv
      by_cases h0 : k < len0
      · obtain ⟨av, hav⟩ : ∃ av, av = A.getD k 0 := ⟨_, rfl⟩
        have hcA : v7.cell? ⟨g3, k, none⟩ = some (.int .u32 av) := by rw [hav]; exact rA.cell (Rk.ints_at _ _ _ (by have := hAl.out; omega))
        have Hav : Hid (av = A.getD k 0) := hav
        clear hav
        by_cases h2 : (k : Int) = a2
        · have h2' : ((k : Int) != a2) = false := by simpa using h2
          have hwb : wv = bv := by rw [hww.out, Hbv.out, shw, if_neg (fun hh => hh.2.2.1 h2)]
          subst hwb
          clear h2
          go_wp2
          go_round
          case rel => exact ⟨k + 1, by omega, by go_num⟩
          case measure => simp [intOf]; omega
        · have h2' : ((k : Int) != a2) = true := by simpa using h2
          by_cases h3 : (k : Int) = a3
          · have h3' : ((k : Int) != a3) = false := by simpa using h3
            have hwb : wv = bv := by rw [hww.out, Hbv.out, shw, if_neg (fun hh => hh.2.2.2 h3)]
            subst hwb
            clear h3
            go_wp2
            go_round
            case rel => exact ⟨k + 1, by omega, by go_num⟩
            case measure => simp [intOf]; omega
          · have h3' : ((k : Int) != a3) = true := by simpa using h3
            by_cases h1 : bv < av
            · have hwb : wv = av := by rw [hww.out, Hav.out, shw, if_pos ⟨by have := hAl.out; omega, by rw [← Hbv.out, ← Hav.out]; exact h1, h2, h3⟩]
              subst hwb
              go_wp2
              go_round
              case rel => exact ⟨k + 1, by omega, by go_num⟩
              case measure => simp [intOf]; omega
            · have hwb : wv = bv := by rw [hww.out, Hbv.out, shw, if_neg (fun hh => h1 (by rw [Hbv.out, Hav.out]; exact hh.2.1))]
              subst hwb
              go_wp2
              go_round
              case rel => exact ⟨k + 1, by omega, by go_num⟩
              case measure => simp [intOf]; omega
      · have h0' : decide ((k : Int) < (len0 : Int)) = false := by simp; omega
        have hwb : wv = bv := by rw [hww.out, Hbv.out, shw, if_neg (fun hh => h0 (by have := hAl.out; omega))]
        subst hwb
        go_wp2
        go_round
        case rel => exact ⟨k + 1, by omega, by go_num⟩
        case measure => simp [intOf]; omega
    · go_wp2
      go_loopw [16] (fun i wr => ∃ k : Nat, k ≤ len0 ∧ i = .int .i64 k ∧ Below w.heap.size w wr ∧ Row wr g3 33 (ints .u32 A)) (fun i _ => len0 - (intOf i).toNat)
      case atStart => exact ⟨0, Nat.zero_le _, rfl, B8, rA⟩
      case round =>
        obtain ⟨j, hj, rfl, hbr, rAr⟩ := hrel
        by_cases hjl : j < len0
        · obtain ⟨av, hav⟩ : ∃ av, av = A.getD j 0 := ⟨_, rfl⟩
          have hcA : wr.cell? ⟨g3, j, none⟩ = some (.int .u32 av) := by rw [hav]; exact rAr.cell (Rk.ints_at _ _ _ (by have := hAl.out; omega))
          have hcX : wr.cell? (x.add j) = some (.int .u32 av) := by rw [hav]; exact (HX.out wr hbr j hjl).1
          have hd := hbr.drew
          have rd := rAr.drew
          clear hav
          go_wp2
          go_region
          all_goals (try go_wp2)
          all_goals
            go_roundw
            case rel => exact ⟨j + 1, by omega, by go_num, hd, rd⟩
            case measure => simp [intOf]; omega
        · go_wp2
          go_ret
          exact ⟨rfl, hbr⟩

set_option maxHeartbeats 2000000 in
set_option maxRecDepth 100000 in
theorem walk_nil (a1 : Option Addr) (len1 cap1 : Nat) (z1 : List Int) (a2 : Int) (a3 : Int) (w : World) (w1 : IsRow .u32 w a1 len1 cap1 z1)
    (hl1 : len1 ≤ 1048576) :
    Calls Yba.prog 3 #[.slice none 0 0, .slice a1 len1 cap1, .int .i64 a2, .int .i64 a3] w fun e w' => e = .returned (.bool true) ∧ Below w.heap.size w w' := by
  obtain ⟨i0, hi, hz0, hz1, hz2⟩ := info_parts Yba.info33
  obtain ⟨S, hS⟩ : ∃ S, S = z1.take len1 := ⟨_, rfl⟩
  have hSl : Hid (S.length = len1) := by rw [hS]; exact w1.lenEq
  obtain ⟨B, hB⟩ : ∃ B, B = S ++ List.replicate (len1 - S.length) 0 := ⟨_, rfl⟩
  have hBl : Hid (B.length = len1) := by show _ = _; rw [hB]; have := hSl.out; simp; omega
  have hSmin : Hid ((ints .u32 S).length = Nat.min len1 len1) := by show _ = _; rw [length_ints, hSl.out]; exact (Nat.min_eq_left (by omega)).symm
  have hfit : Hid (0 + (ints .u32 S).length ≤ (List.replicate len1 (Value.int .u32 0)).length) := by show _ ≤ _; rw [length_ints, hSl.out]; simp
  have HS : Hid (∀ w', Below w.heap.size w w' → 0 < (ints .u32 S).length → ∃ ad, a1 = some ad ∧ ∀ j v, (ints .u32 S)[j]? = some v → w'.cell? (ad.add j) = some v) := by rw [hS]; exact fun w' hb => w1.pos hb
  have hspS : Hid (splice (List.replicate len1 (Value.int .u32 0)) 0 (ints .u32 S) = ints .u32 B) := by rw [hB]; exact splice_pad _ _
  have hne : ∀ n c w, (binOp .neq 22 (.slice none n c) (.slice none 0 0)).run Yba.prog w = .ok (.bool false) w := fun n c w => run_neq_slice_nil_any w 22 33 none n c 0 0 Yba.underlying22
  have heq : ∀ n c w, (binOp .eql 22 (.slice none n c) (.slice none 0 0)).run Yba.prog w = .ok (.bool true) w := fun n c w => Lib.run_eql_slice_nil w 22 33 none n c 0 0 Yba.underlying22
  clear hS hB
  go_enter Yba.func3, Yba.ntmps3
  go_wp2_with (first
    | (at_make; refine law_make rfl (.tmp 33) (.tmp 33) 22 rfl 33 i0 (.int .u32 0) 4 Yba.underlying22 hi hz0 hz1 hz2 rfl .i64 .i64 _ _ len1 len1 rfl rfl rfl rfl (Nat.le_refl _) (by omega) (by unfold maxLen; omega) ?_; intro g1 v1 e1 r1 s1 b1; have B1 : Below w.heap.size w v1 := (Below.refl _ _).grown b1 (Nat.le_refl _) (fun k hk => by cases hk))
    | (with_reducible refine at_copy (.tmp 35) (.tmp 36) ?_; refine law_copy rfl (.tmp 35) (.tmp 36) 22 22 rfl 33 Yba.underlying22 size33 g1 0 _ _ _ _ _ rfl rfl (List.replicate len1 (.int .u32 0)) 33 r1 (ints .u32 S) hSmin.out (HS.out _ B1) hfit.out (ints_one _ _) ?_; intro v2 r2 s2 b2; rw [hspS.out] at r2; have B2 : Below w.heap.size w v2 := B1.grown b2 B1.size (fun k hk => by cases hk; exact Nat.le_of_eq e1.out.symm))
    | (at_make; refine law_make rfl (.tmp 38) (.tmp 38) 22 rfl 33 i0 (.int .u32 0) 4 Yba.underlying22 hi hz0 hz1 hz2 rfl .i64 .i64 _ _ len1 len1 rfl rfl rfl rfl (Nat.le_refl _) (by omega) (by unfold maxLen; omega) ?_; intro g2 v3 e2 r3 s3 b3; have B3 : Below w.heap.size w v3 := B2.grown b3 B2.size (fun k hk => by cases hk))
    | (with_reducible refine at_copy (.tmp 40) (.tmp 41) ?_; refine law_copy rfl (.tmp 40) (.tmp 41) 22 22 rfl 33 Yba.underlying22 size33 g2 0 _ _ _ _ _ rfl rfl (List.replicate len1 (.int .u32 0)) 33 r3 (ints .u32 S) hSmin.out (HS.out _ B3) hfit.out (ints_one _ _) ?_; intro v4 r4 s4 b4; rw [hspS.out] at r4; have B4 : Below w.heap.size w v4 := B3.grown b4 B3.size (fun k hk => by cases hk; rw [e2.out]; exact B2.size))
    | (with_reducible refine at_build 53 ?_; go_must (obtain ⟨mc, mb, m0, m18⟩ := memBuilt a3 (some ⟨g2, 0, none⟩) len1 len1; refine law_build rfl 53 _ rfl [(0, .int .i64 a3), (10, .slice (some ⟨g2, 0, none⟩) len1 len1)] rfl _ mb ?_; clear mb))
    | fail)
  have E1 : g1 < g2 := by have := e1.out; have := s1.out; have := s2.out; have := e2.out; omega
  have E3 : g2 < v4.heap.size := by have := s3.out; have := s4.out; omega
  have E0 : w.heap.size ≤ g1 := Nat.le_of_eq e1.out.symm
  have rM : Row (v4.alloc (.cells mc 53)) v4.heap.size 53 mc.toList := Row.newA v4 53 mc
  have r2' : Row v4 g1 33 (ints .u32 B) := (r2.grown b3 (by simp)).grown b4 (by simp; omega)
  have B7 : Below w.heap.size w (v4.alloc (.cells mc 53)) := B4.alloc B4.size _
  clear r1 r3 b1 b2 b3 b4 e1 e2 s1 s2 s3 s4 B1 B2 B3 hspS hSmin HS hfit hi hz0 hz1 hz2 r2
  refine (show_any v4.heap.size g2 none 0 0 len1 [] B a2 a3 _ (by simp) rfl hBl.out (by omega) (by omega) ?_ ?_ ?_ ?_ ?_).mono ?_
  · exact rM.cell m18
  · exact rM.cell m0
  · intro y hy
    cases hy
  · omega
  · exact r4.alloc _
  rintro e v7 ⟨rfl, ⟨W, hW, rW⟩, b7⟩
  have B8 : Below w.heap.size w v7 := B7.grown b7 B7.size (fun k hk => by cases hk; omega)
  have rM' : Row v7 v4.heap.size 53 mc.toList := rM.grown b7 (by simp; omega)
  have rB : Row v7 g1 33 (ints .u32 B) := (r2'.alloc _).grown b7 (by simp; omega)
  have hc0 : v7.cell? ⟨v4.heap.size, 0, none⟩ = some (.int .i64 a3) := rM'.cell m0
  have hc18 : v7.cell? ⟨v4.heap.size, 18, none⟩ = some (.slice (some ⟨g2, 0, none⟩) len1 len1) := rM'.cell m18
  clear rM r4 r2' B7 b7 B4
  go_wp2
  go_loop [14, 15] (fun i _ => ∃ k : Nat, k ≤ len1 ∧ i = .int .i64 k) (fun i _ => len1 - (intOf i).toNat)
  case atStart => exact ⟨0, Nat.zero_le _, rfl⟩
  case round =>
    obtain ⟨k, hk, rfl⟩ := hrel
    by_cases hlt : k < len1
    · have hkB : k < B.length := by have := hBl.out; omega
      obtain ⟨bv, hbv⟩ : ∃ bv, bv = B.getD k 0 := ⟨_, rfl⟩
      obtain ⟨wv, hwv⟩ : ∃ wv, wv = W.getD k 0 := ⟨_, rfl⟩
      have hcB : v7.cell? ⟨g1, k, none⟩ = some (.int .u32 bv) := by rw [hbv]; exact rB.cell (Rk.ints_at _ _ _ hkB)
      have hcW : v7.cell? ⟨g2, k, none⟩ = some (.int .u32 wv) := by rw [hwv]; exact rW.cell (Rk.ints_at _ _ _ (by have := hW.1; omega))
      have h0' : decide ((k : Int) < 0) = false := by simp
      have hwb : wv = bv := by rw [hwv, shwTo_end hW k hkB, hbv, shw, if_neg (fun hh => absurd hh.1 (by simp))]
      clear hbv hwv
      subst hwb
      go_wp2
      go_round
      case rel => exact ⟨k + 1, by omega, by go_num⟩
      case measure => simp [intOf]; omega
    · go_wp2
      refine wp_loop_rounds 1 ?_
      rw [rounds_succ]
      go_wp2
      go_ret
      exact ⟨rfl, B8⟩

set_option maxHeartbeats 1000000 in
theorem walk_long (a0 : Option Addr) (len0 cap0 : Nat) (a1 : Option Addr) (len1 cap1 : Nat) (a2 : Int) (a3 : Int) (w : World) (h : 1048576 < len0 ∨ 1048576 < len1) :
    Calls Yba.prog 3 #[.slice a0 len0 cap0, .slice a1 len1 cap1, .int .i64 a2, .int .i64 a3] w fun e w' => e = .returned (.bool true) ∧ Below w.heap.size w w' := by
  by_cases h0 : 1048576 < len0
  · go_enter Yba.func3, Yba.ntmps3
    go_wp2
    go_ret
    exact ⟨rfl, Below.refl _ _⟩
  · have h1 : 1048576 < len1 := by omega
    clear h
    go_enter Yba.func3, Yba.ntmps3
    go_wp2
    go_ret
    exact ⟨rfl, Below.refl _ _⟩

theorem walk_any (a0 : Option Addr) (len0 cap0 : Nat) (z0 : List Int) (a1 : Option Addr) (len1 cap1 : Nat) (z1 : List Int) (a2 : Int) (a3 : Int) (w : World) (w0 : IsRow .u32 w a0 len0 cap0 z0) (w1 : IsRow .u32 w a1 len1 cap1 z1) :
    Calls Yba.prog 3 #[.slice a0 len0 cap0, .slice a1 len1 cap1, .int .i64 a2, .int .i64 a3] w fun e w' => e = .returned (.bool true) ∧ Below w.heap.size w w' := by
  by_cases h : 1048576 < len0 ∨ 1048576 < len1
  · exact walk_long a0 len0 cap0 a1 len1 cap1 a2 a3 w h
  · cases a0 with
    | none =>
      obtain ⟨rfl, rfl⟩ := w0.nil rfl
      exact walk_nil a1 len1 cap1 z1 a2 a3 w w1 (by omega)
    | some x =>
      by_cases hgt : len1 < len0
      · exact walk_gt x len0 cap0 z0 a1 len1 cap1 z1 a2 a3 w w0 w1 (by omega) (by omega) hgt
      · exact walk_le x len0 cap0 z0 a1 len1 cap1 z1 a2 a3 w w0 w1 (by omega) (by omega) (by omega)

end Go.Proofs.Ybulkdzce
