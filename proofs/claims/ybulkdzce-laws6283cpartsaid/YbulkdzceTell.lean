import Derived.Test.YbulkdzceRows
import Derived.Test.YbulkdzceKit
import Derived.WalkKit
import Derived.ProofKit
import Derived.OpenShut
import Derived.WalkSpells
import Derived.Laws.BitsAllLaws
import Derived.Deep.QuietTactic
import Derived.BigQuiet
namespace Go.Proofs.Ybulkdzce
open Go.RowKit Go.Rk

/-- Is bit k of t set (k below 64)? -/
def inT (t : Int) (k : Nat) : Bool := decide (k < 64) && (t.toNat / 2 ^ k % 2 == 1)

theorem two_pow_lt (k : Nat) (h : k < 64) : 2 ^ k < 18446744073709551616 := by
  have : (2 : Nat) ^ k < 2 ^ 64 := Nat.pow_lt_pow_right (by omega) h
  simpa using this

theorem has_bits (t : Int) (k : Nat) (h0 : 0 ≤ t) (h1 : t < 18446744073709551616) :
    (bits .and .u64 t (IntKind.u64.wrap (2 ^ min k 64)) != 0) = inT t k := by
  rw [IntKind.wrap_u64]
  by_cases hk : k < 64
  · have hp := two_pow_lt k hk
    have hpos : 0 < 2 ^ k := Nat.pow_pos (by omega)
    have e1 : ((2 : Int) ^ min k 64) = ((2 ^ k : Nat) : Int) := by rw [Nat.min_eq_left (by omega)]; simp
    rw [e1]
    have e3 := nat_bit k t.toNat
    unfold inT
    generalize 2 ^ k = P at *
    have e2 : ((P : Int) % 18446744073709551616) = (P : Int) := Int.emod_eq_of_lt (by omega) (by omega)
    rw [e2, u64_and t _ h0 h1 (by omega) (by omega), Int.toNat_natCast, e3]
    have hm : t.toNat / P % 2 < 2 := Nat.mod_lt _ (by omega)
    generalize t.toNat / P % 2 = b at *
    have hb : b = 0 ∨ b = 1 := by omega
    rcases hb with rfl | rfl
    · simp
    · simp [hk]
      omega
  · have e1 : min k 64 = 64 := by omega
    rw [e1]
    have e2 : ((2 : Int) ^ 64 % 18446744073709551616) = 0 := by decide
    rw [e2, u64_and t 0 h0 h1 (by omega) (by omega)]
    simp [inT, hk]

theorem ret_bool {a b : Bool} (h : a = b) : Ending.returned (.bool a) = .returned (.bool b) := by rw [h]

theorem has_any (t : Int) (k : Nat) (w : World) (h0 : 0 ≤ t) (h1 : t < 18446744073709551616) (hk : k < 70) :
    Calls Yba.prog 7 #[.int .u64 t, .int .i64 ((k : Int) + 1)] w fun e w' => e = .returned (.bool (inT t k)) ∧ w' = w := by
  go_enter Yba.func7, Yba.ntmps7
  go_wp2
  go_ret
  exact ⟨ret_bool (has_bits t k h0 h1), rfl⟩

/-- The peers' row: 25 cells each; 'told' at 18, 'toldIn' at 19, 'asked' (nought) at 7. -/
def PeersOk (L : List Value) (cnt : Nat) (td : Nat → Option Addr) (ti : Nat → Int) : Prop :=
  L.length = cnt * 25 ∧ ∀ k, k < cnt → L[k * 25 + 18]? = some (.pointer (td k)) ∧ L[k * 25 + 19]? = some (.int .u64 (ti k)) ∧ L[k * 25 + 7]? = some (.int .u64 0)

theorem PeersOk.congr {L : List Value} {cnt : Nat} {td td' : Nat → Option Addr} {ti ti' : Nat → Int} (h : PeersOk L cnt td ti) (h1 : ∀ k, k < cnt → td k = td' k) (h2 : ∀ k, k < cnt → ti k = ti' k) : PeersOk L cnt td' ti' :=
  ⟨h.1, fun k hk => by rw [← h1 k hk, ← h2 k hk]; exact h.2 k hk⟩

theorem PeersOk.told {L : List Value} {cnt : Nat} {td : Nat → Option Addr} {ti : Nat → Int} (h : PeersOk L cnt td ti) (k : Nat) (hk : k < cnt) (a : Option Addr) :
    PeersOk (L.set (k * 25 + 18) (.pointer a)) cnt (fun j => if j = k then a else td j) ti := by
  refine ⟨by simp [h.1], fun j hj => ?_⟩
  obtain ⟨h1, h2, h3⟩ := h.2 j hj
  have hl := h.1
  refine ⟨?_, ?_, ?_⟩
  · by_cases e : j = k
    · subst e
      simp only [if_pos]
      rw [List.getElem?_set_self (by omega)]
    · simp only [if_neg e]
      rw [List.getElem?_set_ne (by omega)]; exact h1
  · rw [List.getElem?_set_ne (by omega)]; exact h2
  · rw [List.getElem?_set_ne (by omega)]; exact h3

theorem PeersOk.toldIn {L : List Value} {cnt : Nat} {td : Nat → Option Addr} {ti : Nat → Int} (h : PeersOk L cnt td ti) (k : Nat) (hk : k < cnt) (a : Int) :
    PeersOk (L.set (k * 25 + 19) (.int .u64 a)) cnt td (fun j => if j = k then a else ti j) := by
  refine ⟨by simp [h.1], fun j hj => ?_⟩
  obtain ⟨h1, h2, h3⟩ := h.2 j hj
  have hl := h.1
  refine ⟨?_, ?_, ?_⟩
  · rw [List.getElem?_set_ne (by omega)]; exact h1
  · by_cases e : j = k
    · subst e
      simp only [if_pos]
      rw [List.getElem?_set_self (by omega)]
    · simp only [if_neg e]
      rw [List.getElem?_set_ne (by omega)]; exact h2
  · rw [List.getElem?_set_ne (by omega)]; exact h3

/-- 'told' and 'toldIn' after k rounds of 'tell'. -/
def tdTo (t : Int) (q : Nat) (td : Nat → Option Addr) (k : Nat) : Nat → Option Addr := fun j => if j < k ∧ inT t j = true then some ⟨q, 0, none⟩ else td j
def tiTo (t : Int) (iv : Int) (ti : Nat → Int) (k : Nat) : Nat → Int := fun j => if j < k ∧ inT t j = true then iv else ti j

theorem peers_no {L : List Value} {cnt : Nat} {td : Nat → Option Addr} {ti : Nat → Int} {t iv : Int} {q k : Nat} (h : PeersOk L cnt (tdTo t q td k) (tiTo t iv ti k)) (hin : inT t k = false) :
    PeersOk L cnt (tdTo t q td (k + 1)) (tiTo t iv ti (k + 1)) := by
  refine h.congr (fun j _ => ?_) (fun j _ => ?_)
  all_goals
    simp only [tdTo, tiTo]
    by_cases e : j = k
    · subst e; simp [hin]
    · have : j < k ↔ j < k + 1 := by omega
      simp only [this]

theorem peers_yes {L : List Value} {cnt : Nat} {td : Nat → Option Addr} {ti : Nat → Int} {t iv : Int} {q k : Nat} (h : PeersOk L cnt (tdTo t q td k) (tiTo t iv ti k)) (hk : k < cnt) (hin : inT t k = true) :
    PeersOk ((L.set (k * 25 + 18) (.pointer (some ⟨q, 0, none⟩))).set (k * 25 + 19) (.int .u64 iv)) cnt (tdTo t q td (k + 1)) (tiTo t iv ti (k + 1)) := by
  refine ((h.told k hk _).toldIn k hk iv).congr (fun j _ => ?_) (fun j _ => ?_)
  all_goals
    simp only [tdTo, tiTo]
    by_cases e : j = k
    · subst e; simp [hin]
    · have : j < k ↔ j < k + 1 := by omega
      simp only [this, if_neg e]

set_option maxHeartbeats 1000000 in
theorem transmit_any (gH gQ : Nat) (t : Int) (w : World) (hR : Row w gH 58 [.int .i64 0, .int .i64 0, .pointer none, .int .u64 0]) :
    Calls Yba.prog 45 #[.pointer (some ⟨gH, 0, none⟩), .pointer (some ⟨gQ, 0, none⟩), .int .u64 t] w fun e w' =>
      e = .returned (.tuple #[]) ∧ Row w' gH 58 [.int .i64 1, .int .i64 0, .pointer (some ⟨gQ, 0, none⟩), .int .u64 t] ∧ w.grownBy w' (some gH) := by
  have c0 := hR.cell (k := 0) rfl
  have c2 := hR.cell (k := 2) rfl
  have c3 := hR.cell (k := 3) rfl
  have f0 := hR.free 0
  have f2 := hR.free 2
  have f3 := hR.free 3
  go_enter Yba.func45, Yba.ntmps45
  go_wp2
  go_end0
  exact ⟨rfl, ((hR.setCell 0 _).setCell 2 _).setCell 3 _, ((grownBy_setCell _ _ _ _).trans (grownBy_setCell _ _ _ _)).trans (grownBy_setCell _ _ _ _)⟩

theorem meth45 (a : Addr) (w : World) : (method 241 56 (.pointer (some a)) "Transmit").run Yba.prog w = .ok (45, .pointer (some a)) w := by kernel_rfl

set_option maxHeartbeats 1000000 in
set_option maxRecDepth 100000 in
theorem tell_any (gM gP gH gQ : Nat) (cnt : Nat) (t now iv : Int) (M L : List Value) (td : Nat → Option Addr) (ti : Nat → Int) (w : World) (hcnt : cnt < 70) (h0 : 0 ≤ t) (h1 : t < 18446744073709551616)
    (rM : Row w gM 53 M) (rP : Row w gP 70 L) (rH : Row w gH 58 [.int .i64 0, .int .i64 0, .pointer none, .int .u64 0]) (hMP : gM ≠ gP) (hMH : gM ≠ gH) (hPH : gP ≠ gH)
    (m14 : M[14]? = some (.slice (some ⟨gP, 0, none⟩) cnt cnt)) (m21 : M[21]? = some (.int .u64 iv)) (m47 : M[47]? = some (.int .u64 now)) (m1 : M[1]? = some (.iface 56 (.pointer (some ⟨gH, 0, none⟩)))) {lt : Int} (m39 : M[39]? = some (.int .i64 lt)) (hP : PeersOk L cnt td ti) :
    Calls Yba.prog 6 #[.pointer (some ⟨gM, 0, none⟩), .pointer (some ⟨gQ, 0, none⟩), .int .u64 t] w fun e w' => e = .returned (.tuple #[]) ∧
      (∃ L', Row w' gP 70 L' ∧ PeersOk L' cnt (tdTo t gQ td cnt) (tiTo t iv ti cnt)) ∧ Row w' gM 53 (if t = now then M.set 39 (.int .i64 0) else M) ∧
      Row w' gH 58 [.int .i64 1, .int .i64 0, .pointer (some ⟨gQ, 0, none⟩), .int .u64 t] ∧ Kept [gP, gM, gH] w w' := by
  have hmeth := meth45
  have c14 := rM.cell m14
  go_enter Yba.func6, Yba.ntmps6
  go_wp2
  go_loopw [12, 6] (fun i _ wr => ∃ (k : Nat) (L' : List Value), k ≤ cnt ∧ i = .int .i64 k ∧ Row wr gP 70 L' ∧ PeersOk L' cnt (tdTo t gQ td k) (tiTo t iv ti k) ∧ Kept [gP] w wr) (fun i _ _ => cnt - (intOf i).toNat)
  case atStart => exact ⟨0, L, Nat.zero_le _, rfl, rP, hP.congr (fun j _ => by simp [tdTo]) (fun j _ => by simp [tiTo]), Kept.refl _ _⟩
  case round =>
    obtain ⟨k, L', hk, rfl, rPr, hPr, hkr⟩ := hrel
    have rMr : Row wr gM 53 M := rM.kept hkr (by simpa using hMP)
    have c14' := rMr.cell m14
    have c21' := rMr.cell m21
    by_cases hlt : k < cnt
    · by_cases hin : inT t k = true
      · obtain ⟨p1, p2, p3⟩ := hPr.2 k hlt
        have q1 := rPr.cell p1
        have q2 := rPr.cell p2
        have q3 := rPr.cell p3
        have f1 := rPr.free (k * 25 + 18)
        have f2 := rPr.free (k * 25 + 19)
        have HP := peers_yes hPr hlt hin
        clear p1 p2 p3
        go_wp2_with (go_at_call 7; refine (has_any t k _ h0 h1 (by omega)).mono ?_; rintro e w' ⟨rfl, rfl⟩)
        go_region
        have HR := ((rPr.setCell (k * 25 + 18) (.pointer (some ⟨gQ, 0, none⟩))).setCell (k * 25 + 19) (.int .u64 iv)).drew
        have HK := ((hkr.setCell gP (k * 25 + 18) (by simp) (.pointer (some ⟨gQ, 0, none⟩))).setCell gP (k * 25 + 19) (by simp) (.int .u64 iv)).drew
        generalize World.drew _ = W1 at HR HK ⊢
        clear q1 q2 q3 f1 f2 c14' c21' rMr rPr hkr
        have rM1 : Row W1 gM 53 M := rM.kept HK (by simpa using hMP)
        have c1 := rM1.cell m14
        have c2 := HR.cell (HP.2 k hlt).2.2
        go_wp2
        go_quiet (fail)
        go_wp2
        go_roundw
        case rel => exact ⟨k + 1, _, by omega, by go_num, HR, HP, HK.trans ⟨rfl, rfl, rfl, Nat.le_refl _, fun _ _ _ => rfl⟩⟩
        case measure => simp [intOf]; omega
      · have hin' : inT t k = false := by simpa using hin
        have HP := peers_no hPr hin'
        clear hin
        go_wp2_with (go_at_call 7; refine (has_any t k _ h0 h1 (by omega)).mono ?_; rintro e w' ⟨rfl, rfl⟩)
        go_roundw
        case rel => exact ⟨k + 1, L', by omega, by go_num, rPr, HP, hkr⟩
        case measure => simp [intOf]; omega
    · obtain rfl : k = cnt := by omega
      have c47 := rMr.cell m47
      have c1 := rMr.cell m1
      have c39 := rMr.cell m39
      have f39 := rMr.free 39
      have rHr := rH.kept hkr (by simpa using hPH.symm)
      have K0 : Kept [gP, gM, gH] w wr := ⟨hkr.os, hkr.tape, hkr.output, hkr.size, fun i hi hs => hkr.block i hi (fun h => hs (by simp at h; simp [h]))⟩
      by_cases ht : t = now
      · have ht' : (t == now) = true := by simpa using ht
        have HT : Hid (t = now) := ht
        have rP2 := rPr.setOther ⟨gM, 39, none⟩ (Ne.symm hMP) (.int .i64 0)
        have rM2 := rMr.setCell 39 (.int .i64 0)
        have rH2 := rHr.setOther ⟨gM, 39, none⟩ (Ne.symm hMH) (.int .i64 0)
        have K1 := K0.setCell gM 39 (by simp) (.int .i64 0)
        clear ht rMr rHr hkr K0 rPr
        go_wp2_with (go_at_call 45; refine (transmit_any gH gQ t _ rH2).mono ?_; rintro e w' ⟨rfl, q1, q2⟩)
        go_end0
        have et := HT.out
        subst et
        exact ⟨rfl, ⟨_, rP2.grown q2 (by simpa using hPH), hPr⟩, rM2.grown q2 (by simpa using hMH), q1, K1.trans (Kept.of_grown q2 (fun g e => by cases e; simp))⟩
      · have ht' : (t == now) = false := by simpa using ht
        go_wp2_with (go_at_call 45; refine (transmit_any gH gQ t _ rHr).mono ?_; rintro e w' ⟨rfl, q1, q2⟩)
        go_end0
        refine ⟨rfl, ⟨_, rPr.grown q2 (by simpa using hPH), hPr⟩, ?_, q1, K0.trans (Kept.of_grown q2 (fun g e => by cases e; simp))⟩
        exact rMr.grown q2 (by simpa using hMH)
end Go.Proofs.Ybulkdzce
