import Derived.Test.YbulkdzdgMap
import Derived.Deep.QuietTactic
import Derived.BigQuiet
namespace Go.Proofs.Ybulkdzdg
open Go.RowKit Go.Rk Go.Maps
set_option linter.unusedVariables false
set_option linter.unusedSimpArgs false

theorem info28B : (Yba.prog.info? 28).map (fun i => ((i.size, decide (i.bytes ≤ 1000)), i.zero.map fun z => z.cells.size)) = some ((3, true), some 3) := by kernel_rfl
theorem info28 : ∃ i z, Yba.prog.info? 28 = some i ∧ i.zero = some z ∧ i.size = 3 ∧ i.bytes ≤ 1000 := by
  obtain ⟨i, h1, h2⟩ := Option.map_eq_some_iff.1 info28B
  simp only [Prod.mk.injEq, decide_eq_true_eq] at h2
  obtain ⟨z, h3, h4⟩ := Option.map_eq_some_iff.1 h2.2
  exact ⟨i, z, h1, h3, h2.1.1, h2.1.2⟩

theorem keys_wf {k : IntKind} {w : World} {a : Option Addr} {len cap : Nat} {zs : List Int} (h : IsRow k w a len cap zs) : ∀ i, i < len → (Lit.int k ((zs.take len).getD i 0)).wf = true := by
  intro i hi
  rcases h with ⟨_, rfl, _⟩ | ⟨x, _, h1, _, h3, _, h5⟩
  · omega
  · apply h5
    have hl : i < (zs.take len).length := by simp; omega
    have e : (zs.take len).getD i 0 = (zs.take len)[i] := by simp [List.getElem?_eq_getElem hl]
    rw [e]
    exact List.mem_of_mem_take (List.getElem_mem hl)

theorem mk_chan (a2 : Int) (b2 : 0 ≤ a2 ∧ a2 ≤ 255) (w : World) : ∃ n : Nat, (Instr.makeChan 32 (.int .i64 a2)).run Yba.prog w = .ok (.chan (some w.heap.size)) (w.alloc (.chan n #[] false 0 0 false)) := by
  obtain ⟨i, z, h1, h2, h3, h4⟩ := info28
  obtain ⟨n, rfl⟩ := Int.eq_ofNat_of_zero_le b2.1
  have hb : (i.bytes : Int) * (n : Int) ≤ 281474976710544 := by
    have h : i.bytes * n ≤ 1000 * 255 := Nat.mul_le_mul h4 (by omega)
    have h' : ((i.bytes * n : Nat) : Int) ≤ 281474976710544 := by omega
    rwa [Int.natCast_mul] at h'
  exact ⟨n, Go.Conc.run_makeChan (P := Yba.prog) Yba.underlying32 h1 .i64 n (by omega) hb⟩

set_option maxHeartbeats 1000000 in
set_option maxRecDepth 100000 in
theorem c_some (gT gK : Nat) (m b : Value) (ch : Option Nat) (w : World) (hT : Row w gT 39 [m, .pointer (some ⟨gK, 0, none⟩)]) (hK : Row w gK 36 [.chan ch, b]) :
    Calls Yba.prog 5 #[.pointer (some ⟨gT, 0, none⟩)] w fun e w' => e = .returned (.chan ch) ∧ w' = w := by
  have c1 := hT.cell (k := 1) rfl
  have c0 := hK.cell (k := 0) rfl
  go_enter Yba.func5, Yba.ntmps5
  go_wp2
  go_ret
  exact ⟨rfl, rfl⟩

set_option maxHeartbeats 1000000 in
set_option maxRecDepth 100000 in
theorem c_none (gT : Nat) (m : Value) (w : World) (hT : Row w gT 39 [m, .pointer none]) :
    Calls Yba.prog 5 #[.pointer (some ⟨gT, 0, none⟩)] w fun e w' => e = .returned (.chan none) ∧ w' = w := by
  have c1 := hT.cell (k := 1) rfl
  go_enter Yba.func5, Yba.ntmps5
  go_wp2
  go_ret
  exact ⟨rfl, rfl⟩

theorem belowN1 {w v : World} (h : Below w.heap.size w v) (o : Obj) : Below w.heap.size w (v.alloc o) := h.alloc h.size _
theorem belowN2 {w v : World} (h : Below w.heap.size w v) (o p : Obj) : Below w.heap.size w ((v.alloc o).alloc p) := belowN1 (belowN1 h _) _
theorem belowN3 {w v : World} (h : Below w.heap.size w v) (o p q : Obj) : Below w.heap.size w (((v.alloc o).alloc p).alloc q) := belowN1 (belowN2 h _ _) _

theorem newAt {v : World} {g : Nat} (t : TypeId) (L : List Value) (h : v.heap.size = g) : Row (v.alloc (.cells L.toArray t (0, 0))) g t L := by
  rw [← h]; exact Row.new v t L

set_option maxHeartbeats 4000000 in
set_option maxRecDepth 100000 in
theorem law_true_true (a2 : Int) (x : Addr) (len3 cap3 : Nat) (z3 : List Int) (a4 : Option Addr) (len4 cap4 : Nat) (z4 : List Int) (w : World) (w3 : IsRow .u64 w (some x) len3 cap3 z3) (w4 : IsRow .i64 w a4 len4 cap4 z4) (b2 : 0 ≤ a2 ∧ a2 ≤ 255) (hl3 : len3 ≤ 65536) (hl4 : len4 ≤ 65536) :
    Calls Yba.prog 3 #[.bool true, .bool true, .int .u8 a2, .slice (some x) len3 cap3, .slice a4 len4 cap4] w fun e w' => e = .returned (.bool true) ∧ Below w.heap.size w w' := by
  obtain ⟨i8, z8, hi8, hz8, hs8, hb8⟩ := info28
  obtain ⟨K, hK⟩ : ∃ K, K = z3.take len3 := ⟨_, rfl⟩
  have HK : Hid (∀ w', Below w.heap.size w w' → ∀ i, i < len3 → w'.cell? (x.add i) = some (.int .u64 (K.getD i 0))) := by rw [hK]; exact fun w' hb i h => (w3.at hb rfl i h).1
  have HW : Hid (∀ i, i < len3 → (Lit.int .u64 (K.getD i 0)).wf = true) := by rw [hK]; exact keys_wf w3
  have HO : Hid (∀ w' y, Below w.heap.size w w' → a4 = some y → ∀ i, i < len4 → ∃ v, w'.cell? (y.add i) = some (.int .i64 v)) := fun w' y hb hy i h => ⟨_, (w4.at hb hy i h).1⟩
  have hmul : i8.bytes * len3 ≤ 281474976710656 := Nat.le_trans (Nat.mul_le_mul hb8 hl3) (by omega)
  have hmm := @run_makeMap Yba.prog
  have hne : ∀ v n c w, (binOp .neq 22 (.slice (some v) n c) (.slice none 0 0)).run Yba.prog w = .ok (.bool true) w := fun v n c w => run_neq_slice_nil_any w 22 25 (some v) n c 0 0 Yba.underlying22
  clear hK
  go_enter Yba.func3, Yba.ntmps3
  go_wp2
  go_loopw [41, 12, 13, 14] (fun i _ _ _ wr => ∃ (k : Nat) (D : DataW Unit), k ≤ len3 ∧ i = .int .i64 k ∧ wr.ownsMap Yba.prog 25 timeElem w.heap.size k D ∧ HasTo D K k ∧ Below w.heap.size w wr) (fun i _ _ _ _ => len3 - (intOf i).toNat)
  case atStart => exact ⟨0, .map [], Nat.zero_le _, rfl, World.ownsMap_made _ _ _ _, fun i hi => by omega, (Below.refl _ _).alloc (Nat.le_refl _) _⟩
  case round =>
    obtain ⟨k, D, hk, rfl, hown, hhas, hbr⟩ := hrel
    by_cases hlt : k < len3
    · obtain ⟨kv, hkv⟩ : ∃ kv, kv = K.getD k 0 := ⟨_, rfl⟩
      have hck : wr.cell? (x.add k) = some (.int .u64 kv) := by rw [hkv]; exact HK.out wr hbr k hlt
      have hwf : (Lit.int .u64 kv).wf = true := by rw [hkv]; exact HW.out k hlt
      have HKV : Hid (kv = K.getD k 0) := hkv
      clear hkv
      have hwl : w.heap.size < wr.heap.size := hown.lt
      by_cases h4 : k < len4
      · obtain ⟨y, hy⟩ : ∃ y, a4 = some y := by
          cases a4 with
          | none => have := (w4.nil rfl).1; omega
          | some y => exact ⟨y, rfl⟩
        obtain ⟨ov, hov⟩ := HO.out wr y hbr hy k h4
        subst hy
        go_wp2_with (first
          | (go_at_call 4; go_must (refine (add_any _ _).mono ?_; rintro e w1 ⟨⟨p, q, rfl⟩, g1⟩; have hown1 := hown.kept g1 (by simp)))
          | (at_mapUpdate; go_must (refine wpList_mapUpdate_own _ rfl _ _ _ 24 rfl 25 28 law25 Yba.underlying24 timeElem w.heap.size k D rfl hown1 (by unfold maxLen; omega) _ _ (.int .u64 kv) rfl rfl (keyOf_int_mk Yba.underlying25 hwf) _ [] (timeElem_mk p q) ?_; intro w2 hown2 g2))
          | fail)
        go_roundw
        case rel => exact ⟨k + 1, _, by omega, by go_num, hown2, by rw [HKV.out]; exact hasTo_put hhas hown.isMap _, (hbr.grown g1 hbr.size (fun j hj => by cases hj)).grown g2 (Nat.le_trans hbr.size g1.size) (fun j hj => by cases hj; exact Nat.le_refl _)⟩
        case measure => simp [intOf]; omega
      · have h4' : decide ((k : Int) < (len4 : Int)) = false := by simp; omega
        go_wp2_with (first
          | (go_at_call 4; go_must (refine (add_any _ _).mono ?_; rintro e w1 ⟨⟨p, q, rfl⟩, g1⟩; have hown1 := hown.kept g1 (by simp)))
          | (at_mapUpdate; go_must (refine wpList_mapUpdate_own _ rfl _ _ _ 24 rfl 25 28 law25 Yba.underlying24 timeElem w.heap.size k D rfl hown1 (by unfold maxLen; omega) _ _ (.int .u64 kv) rfl rfl (keyOf_int_mk Yba.underlying25 hwf) _ [] (timeElem_mk p q) ?_; intro w2 hown2 g2))
          | fail)
        go_roundw
        case rel => exact ⟨k + 1, _, by omega, by go_num, hown2, by rw [HKV.out]; exact hasTo_put hhas hown.isMap _, (hbr.grown g1 hbr.size (fun j hj => by cases hj)).grown g2 (Nat.le_trans hbr.size g1.size) (fun j hj => by cases hj; exact Nat.le_refl _)⟩
        case measure => simp [intOf]; omega
    · obtain rfl : k = len3 := by omega
      have hwl : w.heap.size < wr.heap.size := hown.lt
      go_wp2_with (first
        | (at_make; go_must (refine law_makeN rfl (.tmp 61) (.tmp 61) 31 rfl 28 i8 z8 3 Yba.underlying31 hi8 hz8 hs8 .i64 .i64 _ _ k rfl rfl rfl rfl hmul (by unfold maxLen; omega) ?_; intro gS v1 e1 rS s1 g1; have hown1 := hown.kept g1 (by simp); have hS : w.heap.size < gS := (by rw [e1.out]; exact hwl); have B1 : Below w.heap.size w v1 := hbr.grown g1 hbr.size (fun j hj => by cases hj)))
        | fail)
      have HH : Hid (HasTo D K k) := hhas
      clear hown hbr hhas
      go_loopw [65, 16, 17] (fun i _ _ wr => ∃ (j : Nat) (L : List Value), j ≤ k ∧ i = .int .i64 j ∧ Row wr gS 28 L ∧ SnapOk L k D K j ∧ v1.grownBy wr (some gS)) (fun i _ _ _ => k - (intOf i).toNat)
      case atStart => exact ⟨0, _, Nat.zero_le _, rfl, rS, ⟨by simp [size_madeCells], fun i hi => by omega⟩, World.grownBy.refl _ _⟩
      case round =>
        obtain ⟨j, L, hj, rfl, rSr, hSn, hgr⟩ := hrel
        have hownr := hown1.kept hgr (by simp; omega)
        have Br : Below w.heap.size w wr := B1.grown hgr B1.size (fun i hi => by cases hi; omega)
        by_cases hjk : j < k
        · obtain ⟨kv, hkv⟩ : ∃ kv, kv = K.getD j 0 := ⟨_, rfl⟩
          have hck : wr.cell? (x.add j) = some (.int .u64 kv) := by rw [hkv]; exact HK.out wr Br j hjk
          have hwf : (Lit.int .u64 kv).wf = true := by rw [hkv]; exact HW.out j hjk
          have HKV : Hid (kv = K.getD j 0) := hkv
          clear hkv
          obtain ⟨u0, hu0⟩ : ∃ u, L[j * 3]? = some u := ⟨_, List.getElem?_eq_getElem (by have := hSn.1; omega)⟩
          obtain ⟨u1, hu1⟩ : ∃ u, L[j * 3 + 1]? = some u := ⟨_, List.getElem?_eq_getElem (by have := hSn.1; omega)⟩
          obtain ⟨u2, hu2⟩ : ∃ u, L[j * 3 + 2]? = some u := ⟨_, List.getElem?_eq_getElem (by have := hSn.1; omega)⟩
          have q0 := rSr.cell hu0
          have q1 := rSr.cell hu1
          have q2 := rSr.cell hu2
          have f0 := rSr.free (j * 3)
          have f1 := rSr.free (j * 3 + 1)
          have f2 := rSr.free (j * 3 + 2)
          clear hu0 hu1 hu2
          go_wp2_with (first
            | (at_lookup; go_must (refine law_look _ rfl _ _ 24 rfl 25 28 law25 Yba.underlying24 (zero28 _) w.heap.size k D rfl hownr _ (.int .u64 kv) rfl (keyOf_int_mk Yba.underlying25 hwf) ?_; intro p q hpq))
            | fail)
          have hst := snapOk_step hSn hjk (p := p) (q := q) (by rw [← HKV.out]; exact hpq.out)
          go_roundw
          case rel => exact ⟨j + 1, _, by omega, by go_num, ((rSr.setCell _ _).setCell _ _).setCell _ _, hst, ((hgr.trans (grownBy_setCell _ _ _ _)).trans (grownBy_setCell _ _ _ _)).trans (grownBy_setCell _ _ _ _)⟩
          case measure => simp [intOf]; omega
        · obtain rfl : j = k := by omega
          have hwr : w.heap.size < wr.heap.size := hownr.lt
          have hgS := rSr.lt
          obtain ⟨cn, hch⟩ := mk_chan a2 b2 wr
          have hmn : ∀ v w, (binOp .eql 24 (.map (some v)) (.map none)).run Yba.prog w = .ok (.bool false) w := fun v w => run_eql_map_nil w 24 25 28 (some v) Yba.underlying24
          have hc1 := chan_neq
          have hc2 := chan_nil
          have hc3 := chan_nn
          have hp1 := ptr_neq_same
          have hp2 := ptr_neq_nil
          go_wp2_with (first | (at_len; go_must (refine wpList_len_own _ rfl _ 24 rfl 25 28 Yba.underlying24 timeElem w.heap.size j D rfl hownr ?_)) | fail)
          have rT : Row (((wr.alloc (.chan cn #[] false 0 0 false)).alloc (.cells #[.chan (some wr.heap.size), .bool false] 36)).alloc (.cells #[.map (some w.heap.size), .pointer (some ⟨(wr.heap.size + 1), 0, none⟩)] 39)) (wr.heap.size + 1 + 1) 39 [.map (some w.heap.size), .pointer (some ⟨(wr.heap.size + 1), 0, none⟩)] := newAt 39 _ (by simp)
          have rK : Row (((wr.alloc (.chan cn #[] false 0 0 false)).alloc (.cells #[.chan (some wr.heap.size), .bool false] 36)).alloc (.cells #[.map (some w.heap.size), .pointer (some ⟨(wr.heap.size + 1), 0, none⟩)] 39)) (wr.heap.size + 1) 36 [.chan (some wr.heap.size), .bool false] := (newAt 36 _ (by simp)).alloc _
          have hC : (((wr.alloc (.chan cn #[] false 0 0 false)).alloc (.cells #[.chan (some wr.heap.size), .bool false] 36)).alloc (.cells #[.map (some w.heap.size), .pointer (some ⟨(wr.heap.size + 1), 0, none⟩)] 39)).heap[wr.heap.size]? = some (.chan cn #[] false 0 0 false) := by
            rw [Below.heap_alloc _ _ _ (by simp; try omega), Below.heap_alloc _ _ _ (by simp; try omega)]; exact heap_alloc_new wr _
          have hownW' : (((wr.alloc (.chan cn #[] false 0 0 false)).alloc (.cells #[.chan (some wr.heap.size), .bool false] 36)).alloc (.cells #[.map (some w.heap.size), .pointer (some ⟨(wr.heap.size + 1), 0, none⟩)] 39)).ownsMap Yba.prog 25 timeElem w.heap.size j D := (((hownr.alloc _).alloc _).alloc _)
          have rSW : Row (((wr.alloc (.chan cn #[] false 0 0 false)).alloc (.cells #[.chan (some wr.heap.size), .bool false] 36)).alloc (.cells #[.map (some w.heap.size), .pointer (some ⟨(wr.heap.size + 1), 0, none⟩)] 39)) gS 28 L := (((rSr.alloc _).alloc _).alloc _)
          have BW : Below w.heap.size w (((wr.alloc (.chan cn #[] false 0 0 false)).alloc (.cells #[.chan (some wr.heap.size), .bool false] 36)).alloc (.cells #[.map (some w.heap.size), .pointer (some ⟨(wr.heap.size + 1), 0, none⟩)] 39)) := belowN3 Br _ _ _
          clear hch
          generalize (((wr.alloc (.chan cn #[] false 0 0 false)).alloc (.cells #[.chan (some wr.heap.size), .bool false] 36)).alloc (.cells #[.map (some w.heap.size), .pointer (some ⟨(wr.heap.size + 1), 0, none⟩)] 39)) = V at *
          have T0 := rT.cell (k := 0) rfl
          have T1 := rT.cell (k := 1) rfl
          have K0 := rK.cell (k := 0) rfl
          have hcl := chan_len wr.heap.size cn V hC
          refine (c_some (wr.heap.size + 1 + 1) (wr.heap.size + 1) _ _ _ _ rT rK).mono ?_
          rintro e v9 ⟨rfl, hv9⟩
          replace hv9 := hv9.symm
          subst hv9
          have hlm := hownW'.len Yba.underlying24 3
          go_wp2_with fail
          have HSn : Hid (SnapOk L j D K j) := hSn
          have htn := time_neq
          go_loopw [140, 24, 25, 26, 27] (fun i _ _ _ _ wr => ∃ n : Nat, n ≤ j ∧ i = .int .i64 n ∧ V.grownBy wr none) (fun i _ _ _ _ _ => j - (intOf i).toNat)
          case atStart => exact ⟨0, Nat.zero_le _, rfl, World.grownBy.refl _ _⟩
          case round =>
            obtain ⟨n, hn, rfl, gV⟩ := hrel
            have Bn : Below w.heap.size w wr := BW.grown gV BW.size (fun i hi => by cases hi)
            by_cases hnj : n < j
            · obtain ⟨kv, hkv⟩ : ∃ kv, kv = K.getD n 0 := ⟨_, rfl⟩
              have hck : wr.cell? (x.add n) = some (.int .u64 kv) := by rw [hkv]; exact HK.out wr Bn n hnj
              have hwf : (Lit.int .u64 kv).wf = true := by rw [hkv]; exact HW.out n hnj
              have hhv : Hid (Maps.has D (.int .u64 kv) = true) := by rw [hkv]; exact HH.out n hnj
              obtain ⟨p, q, l0, l1, l2, hpq⟩ := HSn.out.2 n hnj
              have HPQ : Hid (timeElem (tv p q) = some (D.atKey (.int .u64 kv) zd, [])) := by rw [hkv]; exact hpq
              have rSn := rSW.grown gV (by simp)
              have s0 := rSn.cell l0
              have s1' := rSn.cell l1
              have s2 := rSn.cell l2
              have hownn := hownW'.kept gV (by simp)
              have T0n := (rT.grown gV (by simp)).cell (k := 0) rfl
              have hSlt := rSn.lt
              have gV' : Hid (∀ o : Obj, ∀ q, V.grownBy ((wr.alloc o).drewN q) none) := fun o q => grown_drewN (gV.trans (World.grownBy_alloc wr o none)) q
              clear hkv hpq l0 l1 l2
              go_wp2_with (first
                | (at_lookup; go_must (refine law_look_ok _ rfl _ _ 24 rfl 25 28 law25 Yba.underlying24 (zero28 _) w.heap.size j D rfl hownn _ (.int .u64 kv) rfl (keyOf_int_mk Yba.underlying25 hwf) hhv.out p q HPQ.out ?_))
                | fail)
              go_quiet (fail)
              go_wp2
              go_roundw
              case rel => exact ⟨n + 1, by omega, by go_num, gV'.out _ _⟩
              case measure => simp [intOf]; omega
            · go_wp2
              go_ret
              exact ⟨rfl, Bn⟩

set_option maxHeartbeats 4000000 in
set_option maxRecDepth 100000 in
theorem law_true_false (a2 : Int) (x : Addr) (len3 cap3 : Nat) (z3 : List Int) (a4 : Option Addr) (len4 cap4 : Nat) (z4 : List Int) (w : World) (w3 : IsRow .u64 w (some x) len3 cap3 z3) (w4 : IsRow .i64 w a4 len4 cap4 z4) (b2 : 0 ≤ a2 ∧ a2 ≤ 255) (hl3 : len3 ≤ 65536) (hl4 : len4 ≤ 65536) :
    Calls Yba.prog 3 #[.bool true, .bool false, .int .u8 a2, .slice (some x) len3 cap3, .slice a4 len4 cap4] w fun e w' => e = .returned (.bool true) ∧ Below w.heap.size w w' := by
  obtain ⟨i8, z8, hi8, hz8, hs8, hb8⟩ := info28
  obtain ⟨K, hK⟩ : ∃ K, K = z3.take len3 := ⟨_, rfl⟩
  have HK : Hid (∀ w', Below w.heap.size w w' → ∀ i, i < len3 → w'.cell? (x.add i) = some (.int .u64 (K.getD i 0))) := by rw [hK]; exact fun w' hb i h => (w3.at hb rfl i h).1
  have HW : Hid (∀ i, i < len3 → (Lit.int .u64 (K.getD i 0)).wf = true) := by rw [hK]; exact keys_wf w3
  have HO : Hid (∀ w' y, Below w.heap.size w w' → a4 = some y → ∀ i, i < len4 → ∃ v, w'.cell? (y.add i) = some (.int .i64 v)) := fun w' y hb hy i h => ⟨_, (w4.at hb hy i h).1⟩
  have hmul : i8.bytes * len3 ≤ 281474976710656 := Nat.le_trans (Nat.mul_le_mul hb8 hl3) (by omega)
  have hmm := @run_makeMap Yba.prog
  have hne : ∀ v n c w, (binOp .neq 22 (.slice (some v) n c) (.slice none 0 0)).run Yba.prog w = .ok (.bool true) w := fun v n c w => run_neq_slice_nil_any w 22 25 (some v) n c 0 0 Yba.underlying22
  clear hK
  go_enter Yba.func3, Yba.ntmps3
  go_wp2
  go_loopw [41, 12, 13, 14] (fun i _ _ _ wr => ∃ (k : Nat) (D : DataW Unit), k ≤ len3 ∧ i = .int .i64 k ∧ wr.ownsMap Yba.prog 25 timeElem w.heap.size k D ∧ HasTo D K k ∧ Below w.heap.size w wr) (fun i _ _ _ _ => len3 - (intOf i).toNat)
  case atStart => exact ⟨0, .map [], Nat.zero_le _, rfl, World.ownsMap_made _ _ _ _, fun i hi => by omega, (Below.refl _ _).alloc (Nat.le_refl _) _⟩
  case round =>
    obtain ⟨k, D, hk, rfl, hown, hhas, hbr⟩ := hrel
    by_cases hlt : k < len3
    · obtain ⟨kv, hkv⟩ : ∃ kv, kv = K.getD k 0 := ⟨_, rfl⟩
      have hck : wr.cell? (x.add k) = some (.int .u64 kv) := by rw [hkv]; exact HK.out wr hbr k hlt
      have hwf : (Lit.int .u64 kv).wf = true := by rw [hkv]; exact HW.out k hlt
      have HKV : Hid (kv = K.getD k 0) := hkv
      clear hkv
      have hwl : w.heap.size < wr.heap.size := hown.lt
      by_cases h4 : k < len4
      · obtain ⟨y, hy⟩ : ∃ y, a4 = some y := by
          cases a4 with
          | none => have := (w4.nil rfl).1; omega
          | some y => exact ⟨y, rfl⟩
        obtain ⟨ov, hov⟩ := HO.out wr y hbr hy k h4
        subst hy
        go_wp2_with (first
          | (go_at_call 4; go_must (refine (add_any _ _).mono ?_; rintro e w1 ⟨⟨p, q, rfl⟩, g1⟩; have hown1 := hown.kept g1 (by simp)))
          | (at_mapUpdate; go_must (refine wpList_mapUpdate_own _ rfl _ _ _ 24 rfl 25 28 law25 Yba.underlying24 timeElem w.heap.size k D rfl hown1 (by unfold maxLen; omega) _ _ (.int .u64 kv) rfl rfl (keyOf_int_mk Yba.underlying25 hwf) _ [] (timeElem_mk p q) ?_; intro w2 hown2 g2))
          | fail)
        go_roundw
        case rel => exact ⟨k + 1, _, by omega, by go_num, hown2, by rw [HKV.out]; exact hasTo_put hhas hown.isMap _, (hbr.grown g1 hbr.size (fun j hj => by cases hj)).grown g2 (Nat.le_trans hbr.size g1.size) (fun j hj => by cases hj; exact Nat.le_refl _)⟩
        case measure => simp [intOf]; omega
      · have h4' : decide ((k : Int) < (len4 : Int)) = false := by simp; omega
        go_wp2_with (first
          | (go_at_call 4; go_must (refine (add_any _ _).mono ?_; rintro e w1 ⟨⟨p, q, rfl⟩, g1⟩; have hown1 := hown.kept g1 (by simp)))
          | (at_mapUpdate; go_must (refine wpList_mapUpdate_own _ rfl _ _ _ 24 rfl 25 28 law25 Yba.underlying24 timeElem w.heap.size k D rfl hown1 (by unfold maxLen; omega) _ _ (.int .u64 kv) rfl rfl (keyOf_int_mk Yba.underlying25 hwf) _ [] (timeElem_mk p q) ?_; intro w2 hown2 g2))
          | fail)
        go_roundw
        case rel => exact ⟨k + 1, _, by omega, by go_num, hown2, by rw [HKV.out]; exact hasTo_put hhas hown.isMap _, (hbr.grown g1 hbr.size (fun j hj => by cases hj)).grown g2 (Nat.le_trans hbr.size g1.size) (fun j hj => by cases hj; exact Nat.le_refl _)⟩
        case measure => simp [intOf]; omega
    · obtain rfl : k = len3 := by omega
      have hwl : w.heap.size < wr.heap.size := hown.lt
      go_wp2_with (first
        | (at_make; go_must (refine law_makeN rfl (.tmp 61) (.tmp 61) 31 rfl 28 i8 z8 3 Yba.underlying31 hi8 hz8 hs8 .i64 .i64 _ _ k rfl rfl rfl rfl hmul (by unfold maxLen; omega) ?_; intro gS v1 e1 rS s1 g1; have hown1 := hown.kept g1 (by simp); have hS : w.heap.size < gS := (by rw [e1.out]; exact hwl); have B1 : Below w.heap.size w v1 := hbr.grown g1 hbr.size (fun j hj => by cases hj)))
        | fail)
      have HH : Hid (HasTo D K k) := hhas
      clear hown hbr hhas
      go_loopw [65, 16, 17] (fun i _ _ wr => ∃ (j : Nat) (L : List Value), j ≤ k ∧ i = .int .i64 j ∧ Row wr gS 28 L ∧ SnapOk L k D K j ∧ v1.grownBy wr (some gS)) (fun i _ _ _ => k - (intOf i).toNat)
      case atStart => exact ⟨0, _, Nat.zero_le _, rfl, rS, ⟨by simp [size_madeCells], fun i hi => by omega⟩, World.grownBy.refl _ _⟩
      case round =>
        obtain ⟨j, L, hj, rfl, rSr, hSn, hgr⟩ := hrel
        have hownr := hown1.kept hgr (by simp; omega)
        have Br : Below w.heap.size w wr := B1.grown hgr B1.size (fun i hi => by cases hi; omega)
        by_cases hjk : j < k
        · obtain ⟨kv, hkv⟩ : ∃ kv, kv = K.getD j 0 := ⟨_, rfl⟩
          have hck : wr.cell? (x.add j) = some (.int .u64 kv) := by rw [hkv]; exact HK.out wr Br j hjk
          have hwf : (Lit.int .u64 kv).wf = true := by rw [hkv]; exact HW.out j hjk
          have HKV : Hid (kv = K.getD j 0) := hkv
          clear hkv
          obtain ⟨u0, hu0⟩ : ∃ u, L[j * 3]? = some u := ⟨_, List.getElem?_eq_getElem (by have := hSn.1; omega)⟩
          obtain ⟨u1, hu1⟩ : ∃ u, L[j * 3 + 1]? = some u := ⟨_, List.getElem?_eq_getElem (by have := hSn.1; omega)⟩
          obtain ⟨u2, hu2⟩ : ∃ u, L[j * 3 + 2]? = some u := ⟨_, List.getElem?_eq_getElem (by have := hSn.1; omega)⟩
          have q0 := rSr.cell hu0
          have q1 := rSr.cell hu1
          have q2 := rSr.cell hu2
          have f0 := rSr.free (j * 3)
          have f1 := rSr.free (j * 3 + 1)
          have f2 := rSr.free (j * 3 + 2)
          clear hu0 hu1 hu2
          go_wp2_with (first
            | (at_lookup; go_must (refine law_look _ rfl _ _ 24 rfl 25 28 law25 Yba.underlying24 (zero28 _) w.heap.size k D rfl hownr _ (.int .u64 kv) rfl (keyOf_int_mk Yba.underlying25 hwf) ?_; intro p q hpq))
            | fail)
          have hst := snapOk_step hSn hjk (p := p) (q := q) (by rw [← HKV.out]; exact hpq.out)
          go_roundw
          case rel => exact ⟨j + 1, _, by omega, by go_num, ((rSr.setCell _ _).setCell _ _).setCell _ _, hst, ((hgr.trans (grownBy_setCell _ _ _ _)).trans (grownBy_setCell _ _ _ _)).trans (grownBy_setCell _ _ _ _)⟩
          case measure => simp [intOf]; omega
        · obtain rfl : j = k := by omega
          have hwr : w.heap.size < wr.heap.size := hownr.lt
          have hgS := rSr.lt
          obtain ⟨cn, hch⟩ := mk_chan a2 b2 wr
          have hmn : ∀ v w, (binOp .eql 24 (.map (some v)) (.map none)).run Yba.prog w = .ok (.bool false) w := fun v w => run_eql_map_nil w 24 25 28 (some v) Yba.underlying24
          have hc1 := chan_neq
          have hc2 := chan_nil
          have hc3 := chan_nn
          have hp1 := ptr_neq_same
          have hp2 := ptr_neq_nil
          go_wp2_with (first | (at_len; go_must (refine wpList_len_own _ rfl _ 24 rfl 25 28 Yba.underlying24 timeElem w.heap.size j D rfl hownr ?_)) | fail)
          have rT : Row ((wr.alloc (.cells #[.chan (none), .bool false] 36)).alloc (.cells #[.map (some w.heap.size), .pointer (some ⟨wr.heap.size, 0, none⟩)] 39)) (wr.heap.size + 1) 39 [.map (some w.heap.size), .pointer (some ⟨wr.heap.size, 0, none⟩)] := newAt 39 _ (by simp)
          have rK : Row ((wr.alloc (.cells #[.chan (none), .bool false] 36)).alloc (.cells #[.map (some w.heap.size), .pointer (some ⟨wr.heap.size, 0, none⟩)] 39)) wr.heap.size 36 [.chan (none), .bool false] := (newAt 36 _ (by simp)).alloc _
          have hownW' : ((wr.alloc (.cells #[.chan (none), .bool false] 36)).alloc (.cells #[.map (some w.heap.size), .pointer (some ⟨wr.heap.size, 0, none⟩)] 39)).ownsMap Yba.prog 25 timeElem w.heap.size j D := ((hownr.alloc _).alloc _)
          have rSW : Row ((wr.alloc (.cells #[.chan (none), .bool false] 36)).alloc (.cells #[.map (some w.heap.size), .pointer (some ⟨wr.heap.size, 0, none⟩)] 39)) gS 28 L := ((rSr.alloc _).alloc _)
          have BW : Below w.heap.size w ((wr.alloc (.cells #[.chan (none), .bool false] 36)).alloc (.cells #[.map (some w.heap.size), .pointer (some ⟨wr.heap.size, 0, none⟩)] 39)) := belowN2 Br _ _
          clear hch
          generalize ((wr.alloc (.cells #[.chan (none), .bool false] 36)).alloc (.cells #[.map (some w.heap.size), .pointer (some ⟨wr.heap.size, 0, none⟩)] 39)) = V at *
          have T0 := rT.cell (k := 0) rfl
          have T1 := rT.cell (k := 1) rfl
          have K0 := rK.cell (k := 0) rfl
          refine (c_some (wr.heap.size + 1) wr.heap.size _ _ _ _ rT rK).mono ?_
          rintro e v9 ⟨rfl, hv9⟩
          replace hv9 := hv9.symm
          subst hv9
          have hlm := hownW'.len Yba.underlying24 3
          go_wp2_with fail
          have HSn : Hid (SnapOk L j D K j) := hSn
          have htn := time_neq
          go_loopw [140, 24, 25, 26, 27] (fun i _ _ _ _ wr => ∃ n : Nat, n ≤ j ∧ i = .int .i64 n ∧ V.grownBy wr none) (fun i _ _ _ _ _ => j - (intOf i).toNat)
          case atStart => exact ⟨0, Nat.zero_le _, rfl, World.grownBy.refl _ _⟩
          case round =>
            obtain ⟨n, hn, rfl, gV⟩ := hrel
            have Bn : Below w.heap.size w wr := BW.grown gV BW.size (fun i hi => by cases hi)
            by_cases hnj : n < j
            · obtain ⟨kv, hkv⟩ : ∃ kv, kv = K.getD n 0 := ⟨_, rfl⟩
              have hck : wr.cell? (x.add n) = some (.int .u64 kv) := by rw [hkv]; exact HK.out wr Bn n hnj
              have hwf : (Lit.int .u64 kv).wf = true := by rw [hkv]; exact HW.out n hnj
              have hhv : Hid (Maps.has D (.int .u64 kv) = true) := by rw [hkv]; exact HH.out n hnj
              obtain ⟨p, q, l0, l1, l2, hpq⟩ := HSn.out.2 n hnj
              have HPQ : Hid (timeElem (tv p q) = some (D.atKey (.int .u64 kv) zd, [])) := by rw [hkv]; exact hpq
              have rSn := rSW.grown gV (by simp)
              have s0 := rSn.cell l0
              have s1' := rSn.cell l1
              have s2 := rSn.cell l2
              have hownn := hownW'.kept gV (by simp)
              have T0n := (rT.grown gV (by simp)).cell (k := 0) rfl
              have hSlt := rSn.lt
              have gV' : Hid (∀ o : Obj, ∀ q, V.grownBy ((wr.alloc o).drewN q) none) := fun o q => grown_drewN (gV.trans (World.grownBy_alloc wr o none)) q
              clear hkv hpq l0 l1 l2
              go_wp2_with (first
                | (at_lookup; go_must (refine law_look_ok _ rfl _ _ 24 rfl 25 28 law25 Yba.underlying24 (zero28 _) w.heap.size j D rfl hownn _ (.int .u64 kv) rfl (keyOf_int_mk Yba.underlying25 hwf) hhv.out p q HPQ.out ?_))
                | fail)
              go_quiet (fail)
              go_wp2
              go_roundw
              case rel => exact ⟨n + 1, by omega, by go_num, gV'.out _ _⟩
              case measure => simp [intOf]; omega
            · go_wp2
              go_ret
              exact ⟨rfl, Bn⟩

set_option maxHeartbeats 4000000 in
set_option maxRecDepth 100000 in
theorem law_false_true (a2 : Int) (x : Addr) (len3 cap3 : Nat) (z3 : List Int) (a4 : Option Addr) (len4 cap4 : Nat) (z4 : List Int) (w : World) (w3 : IsRow .u64 w (some x) len3 cap3 z3) (w4 : IsRow .i64 w a4 len4 cap4 z4) (b2 : 0 ≤ a2 ∧ a2 ≤ 255) (hl3 : len3 ≤ 65536) (hl4 : len4 ≤ 65536) :
    Calls Yba.prog 3 #[.bool false, .bool true, .int .u8 a2, .slice (some x) len3 cap3, .slice a4 len4 cap4] w fun e w' => e = .returned (.bool true) ∧ Below w.heap.size w w' := by
  obtain ⟨i8, z8, hi8, hz8, hs8, hb8⟩ := info28
  obtain ⟨K, hK⟩ : ∃ K, K = z3.take len3 := ⟨_, rfl⟩
  have HK : Hid (∀ w', Below w.heap.size w w' → ∀ i, i < len3 → w'.cell? (x.add i) = some (.int .u64 (K.getD i 0))) := by rw [hK]; exact fun w' hb i h => (w3.at hb rfl i h).1
  have HW : Hid (∀ i, i < len3 → (Lit.int .u64 (K.getD i 0)).wf = true) := by rw [hK]; exact keys_wf w3
  have HO : Hid (∀ w' y, Below w.heap.size w w' → a4 = some y → ∀ i, i < len4 → ∃ v, w'.cell? (y.add i) = some (.int .i64 v)) := fun w' y hb hy i h => ⟨_, (w4.at hb hy i h).1⟩
  have hmul : i8.bytes * len3 ≤ 281474976710656 := Nat.le_trans (Nat.mul_le_mul hb8 hl3) (by omega)
  have hmm := @run_makeMap Yba.prog
  have hne : ∀ v n c w, (binOp .neq 22 (.slice (some v) n c) (.slice none 0 0)).run Yba.prog w = .ok (.bool true) w := fun v n c w => run_neq_slice_nil_any w 22 25 (some v) n c 0 0 Yba.underlying22
  clear hK
  go_enter Yba.func3, Yba.ntmps3
  go_wp2
  go_loopw [41, 12, 13, 14] (fun i _ _ _ wr => ∃ (k : Nat) (D : DataW Unit), k ≤ len3 ∧ i = .int .i64 k ∧ wr.ownsMap Yba.prog 25 timeElem w.heap.size k D ∧ HasTo D K k ∧ Below w.heap.size w wr) (fun i _ _ _ _ => len3 - (intOf i).toNat)
  case atStart => exact ⟨0, .map [], Nat.zero_le _, rfl, World.ownsMap_made _ _ _ _, fun i hi => by omega, (Below.refl _ _).alloc (Nat.le_refl _) _⟩
  case round =>
    obtain ⟨k, D, hk, rfl, hown, hhas, hbr⟩ := hrel
    by_cases hlt : k < len3
    · obtain ⟨kv, hkv⟩ : ∃ kv, kv = K.getD k 0 := ⟨_, rfl⟩
      have hck : wr.cell? (x.add k) = some (.int .u64 kv) := by rw [hkv]; exact HK.out wr hbr k hlt
      have hwf : (Lit.int .u64 kv).wf = true := by rw [hkv]; exact HW.out k hlt
      have HKV : Hid (kv = K.getD k 0) := hkv
      clear hkv
      have hwl : w.heap.size < wr.heap.size := hown.lt
      by_cases h4 : k < len4
      · obtain ⟨y, hy⟩ : ∃ y, a4 = some y := by
          cases a4 with
          | none => have := (w4.nil rfl).1; omega
          | some y => exact ⟨y, rfl⟩
        obtain ⟨ov, hov⟩ := HO.out wr y hbr hy k h4
        subst hy
        go_wp2_with (first
          | (go_at_call 4; go_must (refine (add_any _ _).mono ?_; rintro e w1 ⟨⟨p, q, rfl⟩, g1⟩; have hown1 := hown.kept g1 (by simp)))
          | (at_mapUpdate; go_must (refine wpList_mapUpdate_own _ rfl _ _ _ 24 rfl 25 28 law25 Yba.underlying24 timeElem w.heap.size k D rfl hown1 (by unfold maxLen; omega) _ _ (.int .u64 kv) rfl rfl (keyOf_int_mk Yba.underlying25 hwf) _ [] (timeElem_mk p q) ?_; intro w2 hown2 g2))
          | fail)
        go_roundw
        case rel => exact ⟨k + 1, _, by omega, by go_num, hown2, by rw [HKV.out]; exact hasTo_put hhas hown.isMap _, (hbr.grown g1 hbr.size (fun j hj => by cases hj)).grown g2 (Nat.le_trans hbr.size g1.size) (fun j hj => by cases hj; exact Nat.le_refl _)⟩
        case measure => simp [intOf]; omega
      · have h4' : decide ((k : Int) < (len4 : Int)) = false := by simp; omega
        go_wp2_with (first
          | (go_at_call 4; go_must (refine (add_any _ _).mono ?_; rintro e w1 ⟨⟨p, q, rfl⟩, g1⟩; have hown1 := hown.kept g1 (by simp)))
          | (at_mapUpdate; go_must (refine wpList_mapUpdate_own _ rfl _ _ _ 24 rfl 25 28 law25 Yba.underlying24 timeElem w.heap.size k D rfl hown1 (by unfold maxLen; omega) _ _ (.int .u64 kv) rfl rfl (keyOf_int_mk Yba.underlying25 hwf) _ [] (timeElem_mk p q) ?_; intro w2 hown2 g2))
          | fail)
        go_roundw
        case rel => exact ⟨k + 1, _, by omega, by go_num, hown2, by rw [HKV.out]; exact hasTo_put hhas hown.isMap _, (hbr.grown g1 hbr.size (fun j hj => by cases hj)).grown g2 (Nat.le_trans hbr.size g1.size) (fun j hj => by cases hj; exact Nat.le_refl _)⟩
        case measure => simp [intOf]; omega
    · obtain rfl : k = len3 := by omega
      have hwl : w.heap.size < wr.heap.size := hown.lt
      go_wp2_with (first
        | (at_make; go_must (refine law_makeN rfl (.tmp 61) (.tmp 61) 31 rfl 28 i8 z8 3 Yba.underlying31 hi8 hz8 hs8 .i64 .i64 _ _ k rfl rfl rfl rfl hmul (by unfold maxLen; omega) ?_; intro gS v1 e1 rS s1 g1; have hown1 := hown.kept g1 (by simp); have hS : w.heap.size < gS := (by rw [e1.out]; exact hwl); have B1 : Below w.heap.size w v1 := hbr.grown g1 hbr.size (fun j hj => by cases hj)))
        | fail)
      have HH : Hid (HasTo D K k) := hhas
      clear hown hbr hhas
      go_loopw [65, 16, 17] (fun i _ _ wr => ∃ (j : Nat) (L : List Value), j ≤ k ∧ i = .int .i64 j ∧ Row wr gS 28 L ∧ SnapOk L k D K j ∧ v1.grownBy wr (some gS)) (fun i _ _ _ => k - (intOf i).toNat)
      case atStart => exact ⟨0, _, Nat.zero_le _, rfl, rS, ⟨by simp [size_madeCells], fun i hi => by omega⟩, World.grownBy.refl _ _⟩
      case round =>
        obtain ⟨j, L, hj, rfl, rSr, hSn, hgr⟩ := hrel
        have hownr := hown1.kept hgr (by simp; omega)
        have Br : Below w.heap.size w wr := B1.grown hgr B1.size (fun i hi => by cases hi; omega)
        by_cases hjk : j < k
        · obtain ⟨kv, hkv⟩ : ∃ kv, kv = K.getD j 0 := ⟨_, rfl⟩
          have hck : wr.cell? (x.add j) = some (.int .u64 kv) := by rw [hkv]; exact HK.out wr Br j hjk
          have hwf : (Lit.int .u64 kv).wf = true := by rw [hkv]; exact HW.out j hjk
          have HKV : Hid (kv = K.getD j 0) := hkv
          clear hkv
          obtain ⟨u0, hu0⟩ : ∃ u, L[j * 3]? = some u := ⟨_, List.getElem?_eq_getElem (by have := hSn.1; omega)⟩
          obtain ⟨u1, hu1⟩ : ∃ u, L[j * 3 + 1]? = some u := ⟨_, List.getElem?_eq_getElem (by have := hSn.1; omega)⟩
          obtain ⟨u2, hu2⟩ : ∃ u, L[j * 3 + 2]? = some u := ⟨_, List.getElem?_eq_getElem (by have := hSn.1; omega)⟩
          have q0 := rSr.cell hu0
          have q1 := rSr.cell hu1
          have q2 := rSr.cell hu2
          have f0 := rSr.free (j * 3)
          have f1 := rSr.free (j * 3 + 1)
          have f2 := rSr.free (j * 3 + 2)
          clear hu0 hu1 hu2
          go_wp2_with (first
            | (at_lookup; go_must (refine law_look _ rfl _ _ 24 rfl 25 28 law25 Yba.underlying24 (zero28 _) w.heap.size k D rfl hownr _ (.int .u64 kv) rfl (keyOf_int_mk Yba.underlying25 hwf) ?_; intro p q hpq))
            | fail)
          have hst := snapOk_step hSn hjk (p := p) (q := q) (by rw [← HKV.out]; exact hpq.out)
          go_roundw
          case rel => exact ⟨j + 1, _, by omega, by go_num, ((rSr.setCell _ _).setCell _ _).setCell _ _, hst, ((hgr.trans (grownBy_setCell _ _ _ _)).trans (grownBy_setCell _ _ _ _)).trans (grownBy_setCell _ _ _ _)⟩
          case measure => simp [intOf]; omega
        · obtain rfl : j = k := by omega
          have hwr : w.heap.size < wr.heap.size := hownr.lt
          have hgS := rSr.lt
          obtain ⟨cn, hch⟩ := mk_chan a2 b2 wr
          have hmn : ∀ v w, (binOp .eql 24 (.map (some v)) (.map none)).run Yba.prog w = .ok (.bool false) w := fun v w => run_eql_map_nil w 24 25 28 (some v) Yba.underlying24
          have hc1 := chan_neq
          have hc2 := chan_nil
          have hc3 := chan_nn
          have hp1 := ptr_neq_same
          have hp2 := ptr_neq_nil
          go_wp2_with (first | (at_len; go_must (refine wpList_len_own _ rfl _ 24 rfl 25 28 Yba.underlying24 timeElem w.heap.size j D rfl hownr ?_)) | fail)
          have rT : Row ((wr.alloc (.chan cn #[] false 0 0 false)).alloc (.cells #[.map (some w.heap.size), .pointer (none)] 39)) (wr.heap.size + 1) 39 [.map (some w.heap.size), .pointer (none)] := newAt 39 _ (by simp)
          have hC : ((wr.alloc (.chan cn #[] false 0 0 false)).alloc (.cells #[.map (some w.heap.size), .pointer (none)] 39)).heap[wr.heap.size]? = some (.chan cn #[] false 0 0 false) := by
            rw [Below.heap_alloc _ _ _ (by simp)]; exact heap_alloc_new wr _
          have hownW' : ((wr.alloc (.chan cn #[] false 0 0 false)).alloc (.cells #[.map (some w.heap.size), .pointer (none)] 39)).ownsMap Yba.prog 25 timeElem w.heap.size j D := ((hownr.alloc _).alloc _)
          have rSW : Row ((wr.alloc (.chan cn #[] false 0 0 false)).alloc (.cells #[.map (some w.heap.size), .pointer (none)] 39)) gS 28 L := ((rSr.alloc _).alloc _)
          have BW : Below w.heap.size w ((wr.alloc (.chan cn #[] false 0 0 false)).alloc (.cells #[.map (some w.heap.size), .pointer (none)] 39)) := belowN2 Br _ _
          clear hch
          generalize ((wr.alloc (.chan cn #[] false 0 0 false)).alloc (.cells #[.map (some w.heap.size), .pointer (none)] 39)) = V at *
          have T0 := rT.cell (k := 0) rfl
          have T1 := rT.cell (k := 1) rfl
          have hcl := chan_len wr.heap.size cn V hC
          refine (c_none (wr.heap.size + 1) _ _ rT).mono ?_
          rintro e v9 ⟨rfl, hv9⟩
          replace hv9 := hv9.symm
          subst hv9
          have hlm := hownW'.len Yba.underlying24 3
          go_wp2_with fail
          have HSn : Hid (SnapOk L j D K j) := hSn
          have htn := time_neq
          go_loopw [140, 24, 25, 26, 27] (fun i _ _ _ _ wr => ∃ n : Nat, n ≤ j ∧ i = .int .i64 n ∧ V.grownBy wr none) (fun i _ _ _ _ _ => j - (intOf i).toNat)
          case atStart => exact ⟨0, Nat.zero_le _, rfl, World.grownBy.refl _ _⟩
          case round =>
            obtain ⟨n, hn, rfl, gV⟩ := hrel
            have Bn : Below w.heap.size w wr := BW.grown gV BW.size (fun i hi => by cases hi)
            by_cases hnj : n < j
            · obtain ⟨kv, hkv⟩ : ∃ kv, kv = K.getD n 0 := ⟨_, rfl⟩
              have hck : wr.cell? (x.add n) = some (.int .u64 kv) := by rw [hkv]; exact HK.out wr Bn n hnj
              have hwf : (Lit.int .u64 kv).wf = true := by rw [hkv]; exact HW.out n hnj
              have hhv : Hid (Maps.has D (.int .u64 kv) = true) := by rw [hkv]; exact HH.out n hnj
              obtain ⟨p, q, l0, l1, l2, hpq⟩ := HSn.out.2 n hnj
              have HPQ : Hid (timeElem (tv p q) = some (D.atKey (.int .u64 kv) zd, [])) := by rw [hkv]; exact hpq
              have rSn := rSW.grown gV (by simp)
              have s0 := rSn.cell l0
              have s1' := rSn.cell l1
              have s2 := rSn.cell l2
              have hownn := hownW'.kept gV (by simp)
              have T0n := (rT.grown gV (by simp)).cell (k := 0) rfl
              have hSlt := rSn.lt
              have gV' : Hid (∀ o : Obj, ∀ q, V.grownBy ((wr.alloc o).drewN q) none) := fun o q => grown_drewN (gV.trans (World.grownBy_alloc wr o none)) q
              clear hkv hpq l0 l1 l2
              go_wp2_with (first
                | (at_lookup; go_must (refine law_look_ok _ rfl _ _ 24 rfl 25 28 law25 Yba.underlying24 (zero28 _) w.heap.size j D rfl hownn _ (.int .u64 kv) rfl (keyOf_int_mk Yba.underlying25 hwf) hhv.out p q HPQ.out ?_))
                | fail)
              go_quiet (fail)
              go_wp2
              go_roundw
              case rel => exact ⟨n + 1, by omega, by go_num, gV'.out _ _⟩
              case measure => simp [intOf]; omega
            · go_wp2
              go_ret
              exact ⟨rfl, Bn⟩

set_option maxHeartbeats 4000000 in
set_option maxRecDepth 100000 in
theorem law_false_false (a2 : Int) (x : Addr) (len3 cap3 : Nat) (z3 : List Int) (a4 : Option Addr) (len4 cap4 : Nat) (z4 : List Int) (w : World) (w3 : IsRow .u64 w (some x) len3 cap3 z3) (w4 : IsRow .i64 w a4 len4 cap4 z4) (b2 : 0 ≤ a2 ∧ a2 ≤ 255) (hl3 : len3 ≤ 65536) (hl4 : len4 ≤ 65536) :
    Calls Yba.prog 3 #[.bool false, .bool false, .int .u8 a2, .slice (some x) len3 cap3, .slice a4 len4 cap4] w fun e w' => e = .returned (.bool true) ∧ Below w.heap.size w w' := by
  obtain ⟨i8, z8, hi8, hz8, hs8, hb8⟩ := info28
  obtain ⟨K, hK⟩ : ∃ K, K = z3.take len3 := ⟨_, rfl⟩
  have HK : Hid (∀ w', Below w.heap.size w w' → ∀ i, i < len3 → w'.cell? (x.add i) = some (.int .u64 (K.getD i 0))) := by rw [hK]; exact fun w' hb i h => (w3.at hb rfl i h).1
  have HW : Hid (∀ i, i < len3 → (Lit.int .u64 (K.getD i 0)).wf = true) := by rw [hK]; exact keys_wf w3
  have HO : Hid (∀ w' y, Below w.heap.size w w' → a4 = some y → ∀ i, i < len4 → ∃ v, w'.cell? (y.add i) = some (.int .i64 v)) := fun w' y hb hy i h => ⟨_, (w4.at hb hy i h).1⟩
  have hmul : i8.bytes * len3 ≤ 281474976710656 := Nat.le_trans (Nat.mul_le_mul hb8 hl3) (by omega)
  have hmm := @run_makeMap Yba.prog
  have hne : ∀ v n c w, (binOp .neq 22 (.slice (some v) n c) (.slice none 0 0)).run Yba.prog w = .ok (.bool true) w := fun v n c w => run_neq_slice_nil_any w 22 25 (some v) n c 0 0 Yba.underlying22
  clear hK
  go_enter Yba.func3, Yba.ntmps3
  go_wp2
  go_loopw [41, 12, 13, 14] (fun i _ _ _ wr => ∃ (k : Nat) (D : DataW Unit), k ≤ len3 ∧ i = .int .i64 k ∧ wr.ownsMap Yba.prog 25 timeElem w.heap.size k D ∧ HasTo D K k ∧ Below w.heap.size w wr) (fun i _ _ _ _ => len3 - (intOf i).toNat)
  case atStart => exact ⟨0, .map [], Nat.zero_le _, rfl, World.ownsMap_made _ _ _ _, fun i hi => by omega, (Below.refl _ _).alloc (Nat.le_refl _) _⟩
  case round =>
    obtain ⟨k, D, hk, rfl, hown, hhas, hbr⟩ := hrel
    by_cases hlt : k < len3
    · obtain ⟨kv, hkv⟩ : ∃ kv, kv = K.getD k 0 := ⟨_, rfl⟩
      have hck : wr.cell? (x.add k) = some (.int .u64 kv) := by rw [hkv]; exact HK.out wr hbr k hlt
      have hwf : (Lit.int .u64 kv).wf = true := by rw [hkv]; exact HW.out k hlt
      have HKV : Hid (kv = K.getD k 0) := hkv
      clear hkv
      have hwl : w.heap.size < wr.heap.size := hown.lt
      by_cases h4 : k < len4
      · obtain ⟨y, hy⟩ : ∃ y, a4 = some y := by
          cases a4 with
          | none => have := (w4.nil rfl).1; omega
          | some y => exact ⟨y, rfl⟩
        obtain ⟨ov, hov⟩ := HO.out wr y hbr hy k h4
        subst hy
        go_wp2_with (first
          | (go_at_call 4; go_must (refine (add_any _ _).mono ?_; rintro e w1 ⟨⟨p, q, rfl⟩, g1⟩; have hown1 := hown.kept g1 (by simp)))
          | (at_mapUpdate; go_must (refine wpList_mapUpdate_own _ rfl _ _ _ 24 rfl 25 28 law25 Yba.underlying24 timeElem w.heap.size k D rfl hown1 (by unfold maxLen; omega) _ _ (.int .u64 kv) rfl rfl (keyOf_int_mk Yba.underlying25 hwf) _ [] (timeElem_mk p q) ?_; intro w2 hown2 g2))
          | fail)
        go_roundw
        case rel => exact ⟨k + 1, _, by omega, by go_num, hown2, by rw [HKV.out]; exact hasTo_put hhas hown.isMap _, (hbr.grown g1 hbr.size (fun j hj => by cases hj)).grown g2 (Nat.le_trans hbr.size g1.size) (fun j hj => by cases hj; exact Nat.le_refl _)⟩
        case measure => simp [intOf]; omega
      · have h4' : decide ((k : Int) < (len4 : Int)) = false := by simp; omega
        go_wp2_with (first
          | (go_at_call 4; go_must (refine (add_any _ _).mono ?_; rintro e w1 ⟨⟨p, q, rfl⟩, g1⟩; have hown1 := hown.kept g1 (by simp)))
          | (at_mapUpdate; go_must (refine wpList_mapUpdate_own _ rfl _ _ _ 24 rfl 25 28 law25 Yba.underlying24 timeElem w.heap.size k D rfl hown1 (by unfold maxLen; omega) _ _ (.int .u64 kv) rfl rfl (keyOf_int_mk Yba.underlying25 hwf) _ [] (timeElem_mk p q) ?_; intro w2 hown2 g2))
          | fail)
        go_roundw
        case rel => exact ⟨k + 1, _, by omega, by go_num, hown2, by rw [HKV.out]; exact hasTo_put hhas hown.isMap _, (hbr.grown g1 hbr.size (fun j hj => by cases hj)).grown g2 (Nat.le_trans hbr.size g1.size) (fun j hj => by cases hj; exact Nat.le_refl _)⟩
        case measure => simp [intOf]; omega
    · obtain rfl : k = len3 := by omega
      have hwl : w.heap.size < wr.heap.size := hown.lt
      go_wp2_with (first
        | (at_make; go_must (refine law_makeN rfl (.tmp 61) (.tmp 61) 31 rfl 28 i8 z8 3 Yba.underlying31 hi8 hz8 hs8 .i64 .i64 _ _ k rfl rfl rfl rfl hmul (by unfold maxLen; omega) ?_; intro gS v1 e1 rS s1 g1; have hown1 := hown.kept g1 (by simp); have hS : w.heap.size < gS := (by rw [e1.out]; exact hwl); have B1 : Below w.heap.size w v1 := hbr.grown g1 hbr.size (fun j hj => by cases hj)))
        | fail)
      have HH : Hid (HasTo D K k) := hhas
      clear hown hbr hhas
      go_loopw [65, 16, 17] (fun i _ _ wr => ∃ (j : Nat) (L : List Value), j ≤ k ∧ i = .int .i64 j ∧ Row wr gS 28 L ∧ SnapOk L k D K j ∧ v1.grownBy wr (some gS)) (fun i _ _ _ => k - (intOf i).toNat)
      case atStart => exact ⟨0, _, Nat.zero_le _, rfl, rS, ⟨by simp [size_madeCells], fun i hi => by omega⟩, World.grownBy.refl _ _⟩
      case round =>
        obtain ⟨j, L, hj, rfl, rSr, hSn, hgr⟩ := hrel
        have hownr := hown1.kept hgr (by simp; omega)
        have Br : Below w.heap.size w wr := B1.grown hgr B1.size (fun i hi => by cases hi; omega)
        by_cases hjk : j < k
        · obtain ⟨kv, hkv⟩ : ∃ kv, kv = K.getD j 0 := ⟨_, rfl⟩
          have hck : wr.cell? (x.add j) = some (.int .u64 kv) := by rw [hkv]; exact HK.out wr Br j hjk
          have hwf : (Lit.int .u64 kv).wf = true := by rw [hkv]; exact HW.out j hjk
          have HKV : Hid (kv = K.getD j 0) := hkv
          clear hkv
          obtain ⟨u0, hu0⟩ : ∃ u, L[j * 3]? = some u := ⟨_, List.getElem?_eq_getElem (by have := hSn.1; omega)⟩
          obtain ⟨u1, hu1⟩ : ∃ u, L[j * 3 + 1]? = some u := ⟨_, List.getElem?_eq_getElem (by have := hSn.1; omega)⟩
          obtain ⟨u2, hu2⟩ : ∃ u, L[j * 3 + 2]? = some u := ⟨_, List.getElem?_eq_getElem (by have := hSn.1; omega)⟩
          have q0 := rSr.cell hu0
          have q1 := rSr.cell hu1
          have q2 := rSr.cell hu2
          have f0 := rSr.free (j * 3)
          have f1 := rSr.free (j * 3 + 1)
          have f2 := rSr.free (j * 3 + 2)
          clear hu0 hu1 hu2
          go_wp2_with (first
            | (at_lookup; go_must (refine law_look _ rfl _ _ 24 rfl 25 28 law25 Yba.underlying24 (zero28 _) w.heap.size k D rfl hownr _ (.int .u64 kv) rfl (keyOf_int_mk Yba.underlying25 hwf) ?_; intro p q hpq))
            | fail)
          have hst := snapOk_step hSn hjk (p := p) (q := q) (by rw [← HKV.out]; exact hpq.out)
          go_roundw
          case rel => exact ⟨j + 1, _, by omega, by go_num, ((rSr.setCell _ _).setCell _ _).setCell _ _, hst, ((hgr.trans (grownBy_setCell _ _ _ _)).trans (grownBy_setCell _ _ _ _)).trans (grownBy_setCell _ _ _ _)⟩
          case measure => simp [intOf]; omega
        · obtain rfl : j = k := by omega
          have hwr : w.heap.size < wr.heap.size := hownr.lt
          have hgS := rSr.lt
          obtain ⟨cn, hch⟩ := mk_chan a2 b2 wr
          have hmn : ∀ v w, (binOp .eql 24 (.map (some v)) (.map none)).run Yba.prog w = .ok (.bool false) w := fun v w => run_eql_map_nil w 24 25 28 (some v) Yba.underlying24
          have hc1 := chan_neq
          have hc2 := chan_nil
          have hc3 := chan_nn
          have hp1 := ptr_neq_same
          have hp2 := ptr_neq_nil
          go_wp2_with (first | (at_len; go_must (refine wpList_len_own _ rfl _ 24 rfl 25 28 Yba.underlying24 timeElem w.heap.size j D rfl hownr ?_)) | fail)
          have rT : Row (wr.alloc (.cells #[.map (some w.heap.size), .pointer (none)] 39)) wr.heap.size 39 [.map (some w.heap.size), .pointer (none)] := newAt 39 _ (by simp)
          have hownW' : (wr.alloc (.cells #[.map (some w.heap.size), .pointer (none)] 39)).ownsMap Yba.prog 25 timeElem w.heap.size j D := (hownr.alloc _)
          have rSW : Row (wr.alloc (.cells #[.map (some w.heap.size), .pointer (none)] 39)) gS 28 L := (rSr.alloc _)
          have BW : Below w.heap.size w (wr.alloc (.cells #[.map (some w.heap.size), .pointer (none)] 39)) := belowN1 Br _ 
          clear hch
          generalize (wr.alloc (.cells #[.map (some w.heap.size), .pointer (none)] 39)) = V at *
          have T0 := rT.cell (k := 0) rfl
          have T1 := rT.cell (k := 1) rfl
          refine (c_none wr.heap.size _ _ rT).mono ?_
          rintro e v9 ⟨rfl, hv9⟩
          replace hv9 := hv9.symm
          subst hv9
          have hlm := hownW'.len Yba.underlying24 3
          go_wp2_with fail
          have HSn : Hid (SnapOk L j D K j) := hSn
          have htn := time_neq
          go_loopw [140, 24, 25, 26, 27] (fun i _ _ _ _ wr => ∃ n : Nat, n ≤ j ∧ i = .int .i64 n ∧ V.grownBy wr none) (fun i _ _ _ _ _ => j - (intOf i).toNat)
          case atStart => exact ⟨0, Nat.zero_le _, rfl, World.grownBy.refl _ _⟩
          case round =>
            obtain ⟨n, hn, rfl, gV⟩ := hrel
            have Bn : Below w.heap.size w wr := BW.grown gV BW.size (fun i hi => by cases hi)
            by_cases hnj : n < j
            · obtain ⟨kv, hkv⟩ : ∃ kv, kv = K.getD n 0 := ⟨_, rfl⟩
              have hck : wr.cell? (x.add n) = some (.int .u64 kv) := by rw [hkv]; exact HK.out wr Bn n hnj
              have hwf : (Lit.int .u64 kv).wf = true := by rw [hkv]; exact HW.out n hnj
              have hhv : Hid (Maps.has D (.int .u64 kv) = true) := by rw [hkv]; exact HH.out n hnj
              obtain ⟨p, q, l0, l1, l2, hpq⟩ := HSn.out.2 n hnj
              have HPQ : Hid (timeElem (tv p q) = some (D.atKey (.int .u64 kv) zd, [])) := by rw [hkv]; exact hpq
              have rSn := rSW.grown gV (by simp)
              have s0 := rSn.cell l0
              have s1' := rSn.cell l1
              have s2 := rSn.cell l2
              have hownn := hownW'.kept gV (by simp)
              have T0n := (rT.grown gV (by simp)).cell (k := 0) rfl
              have hSlt := rSn.lt
              have gV' : Hid (∀ o : Obj, ∀ q, V.grownBy ((wr.alloc o).drewN q) none) := fun o q => grown_drewN (gV.trans (World.grownBy_alloc wr o none)) q
              clear hkv hpq l0 l1 l2
              go_wp2_with (first
                | (at_lookup; go_must (refine law_look_ok _ rfl _ _ 24 rfl 25 28 law25 Yba.underlying24 (zero28 _) w.heap.size j D rfl hownn _ (.int .u64 kv) rfl (keyOf_int_mk Yba.underlying25 hwf) hhv.out p q HPQ.out ?_))
                | fail)
              go_quiet (fail)
              go_wp2
              go_roundw
              case rel => exact ⟨n + 1, by omega, by go_num, gV'.out _ _⟩
              case measure => simp [intOf]; omega
            · go_wp2
              go_ret
              exact ⟨rfl, Bn⟩

end Go.Proofs.Ybulkdzdg
