/-
  A SMALL KIT OF THIS SEAT'S OWN: rows of cells that the call itself made, by their block ('Row'), and 'make' and 'copy' over them as laws for the walk. No program in sight.
-/
import Derived.WalkKit
import Derived.Laws.CopyOwn
import Derived.Maps.AppendAt
import Derived.Deep.RegionLaw
import Derived.Deep.Draws
namespace Go.Rk
open Go Go.RowKit

/-- Block g is a row of the cells L, none of them frozen. -/
def Row (w : World) (g : Nat) (t : TypeId) (L : List Value) : Prop := w.heap[g]? = some (.cells L.toArray t (0, 0))

section
variable {w w' : World} {g : Nat} {t : TypeId} {L : List Value} {row : Option Nat}

theorem Row.cell (h : Row w g t L) {k : Nat} {v : Value} (hk : L[k]? = some v) : w.cell? ⟨g, k, none⟩ = some v := by
  rw [cell_of_row w g k _ t _ h]; simpa using hk

theorem Row.free (h : Row w g t L) (k : Nat) : w.frozen? ⟨g, k, none⟩ = false := frozen_of_row w g k _ t h

theorem Row.lt (h : Row w g t L) : g < w.heap.size := (Array.getElem?_eq_some_iff.1 h).1

theorem Row.of_block (h : Row w g t L) (hb : w'.heap[g]? = w.heap[g]?) : Row w' g t L := hb.trans h

theorem Row.grown (h : Row w g t L) (hg : w.grownBy w' row) (hne : some g ≠ row) : Row w' g t L := h.of_block (hg.block g h.lt hne)

theorem Row.below {B : Nat} (h : Row w g t L) (hb : Below B w w') (hg : g < B) : Row w' g t L := h.of_block (hb.block g hg)

theorem Row.alloc (h : Row w g t L) (o : Obj) : Row (w.alloc o) g t L := h.of_block (Below.heap_alloc _ _ _ h.lt)

theorem Row.drew (h : Row w g t L) : Row w.drew g t L := h

theorem Row.new (w : World) (t : TypeId) (L : List Value) : Row (w.alloc (.cells L.toArray t (0, 0))) w.heap.size t L := heap_alloc_new w _

theorem Row.newA (w : World) (t : TypeId) (C : Array Value) : Row (w.alloc (.cells C t (0, 0))) w.heap.size t C.toList := heap_alloc_new w _

theorem Row.setCell (h : Row w g t L) (k : Nat) (v : Value) : Row (w.setCell ⟨g, k, none⟩ v) g t (L.set k v) := by
  unfold Row
  rw [heap_setCell_same w g k _ t v h]
  simp

theorem Row.setOther (h : Row w g t L) (a : Addr) (hne : g ≠ a.block) (v : Value) : Row (w.setCell a v) g t L := h.of_block (heap_setCell_other w a g v hne)

end

theorem grownBy_setCell (w : World) (g k : Nat) (v : Value) : w.grownBy (w.setCell ⟨g, k, none⟩ v) (some g) :=
  ⟨rfl, rfl, rfl, by simp [World.setCell], fun j _ hj => heap_setCell_other w _ j v (by simpa using hj)⟩

theorem grown_drew {w w' : World} {r : Option Nat} (h : w.grownBy w' r) : w.grownBy w'.drew r := ⟨h.os, h.tape, h.output, h.size, h.block⟩
theorem grown_drewN {w w' : World} {r : Option Nat} (h : w.grownBy w' r) (n : Nat) : w.grownBy (w'.drewN n) r := ⟨h.os, h.tape, h.output, h.size, h.block⟩

/-- Of what was there only the blocks of S may have turned. -/
structure Kept (S : List Nat) (w w' : World) : Prop where
  os : w'.os = w.os
  tape : w'.tape = w.tape
  output : w'.output = w.output
  size : w.heap.size ≤ w'.heap.size
  block : ∀ k, k < w.heap.size → k ∉ S → w'.heap[k]? = w.heap[k]?

theorem Kept.refl (S : List Nat) (w : World) : Kept S w w := ⟨rfl, rfl, rfl, Nat.le_refl _, fun _ _ _ => rfl⟩

theorem Kept.trans {S : List Nat} {a b c : World} (h : Kept S a b) (k : Kept S b c) : Kept S a c :=
  ⟨k.os.trans h.os, k.tape.trans h.tape, k.output.trans h.output, Nat.le_trans h.size k.size, fun i hi hs => (k.block i (Nat.lt_of_lt_of_le hi h.size) hs).trans (h.block i hi hs)⟩

theorem Kept.of_grown {S : List Nat} {w w' : World} {row : Option Nat} (h : w.grownBy w' row) (hr : ∀ g, row = some g → g ∈ S) : Kept S w w' :=
  ⟨h.os, h.tape, h.output, h.size, fun k hk hs => h.block k hk (fun e => hs (hr k e.symm))⟩

theorem Kept.drew {S : List Nat} {a w : World} (h : Kept S a w) : Kept S a w.drew := ⟨h.os, h.tape, h.output, h.size, h.block⟩

theorem Kept.setCell {S : List Nat} {a w : World} (h : Kept S a w) (g k : Nat) (hg : g ∈ S) (v : Value) : Kept S a (w.setCell ⟨g, k, none⟩ v) :=
  h.trans (Kept.of_grown (grownBy_setCell w g k v) (fun _ e => by cases e; exact hg))

theorem Row.kept {S : List Nat} {w w' : World} {g : Nat} {t : TypeId} {L : List Value} (h : Row w g t L) (hk : Kept S w w') (hg : g ∉ S) : Row w' g t L := h.of_block (hk.block g h.lt hg)

theorem Kept.below {S : List Nat} {B : Nat} {a w w' : World} (hk : Kept S w w') (h : Below B a w) (hB : B ≤ w.heap.size) (hS : ∀ s ∈ S, B ≤ s) : Below B a w' :=
  h.trans ⟨hk.os, hk.tape, hk.output, hk.size, fun k hlt => hk.block k (by omega) (fun hs => by have := hS k hs; omega)⟩

/-- 'make([]T, m, n)', elements of one cell. -/
theorem law_make {P : Program} {w : World} {ops : Array Oper} {rest : List Oper} {o : Oper} {a : Act} {Q : Exit → Act → World → Prop}
    (hg : o.guard = none) (l c : Operand) (t : TypeId) (hop : o.op = Op.makeSlice t l c)
    (e : TypeId) (i : TypeInfo) (z : Value) (bytes : Nat) (h1 : P.underlying t = some (.slice e)) (h2 : P.info? e = some i) (h3 : i.zero = some z) (h4 : i.size = 1) (h5 : i.bytes = bytes) (hz : z.cells = #[z])
    (kl kc : IntKind) (La C : Int) (m n : Nat) (hl : a.eval l = .int kl La) (hc : a.eval c = .int kc C) (hL : La = (m : Int)) (hC : C = (n : Int)) (hmn : m ≤ n) (b2 : bytes * n ≤ 281474976710656) (b3 : n ≤ maxLen)
    (hK : ∀ g w', Hid (g = w.heap.size) → Row w' g e (List.replicate n z) → Hid (w'.heap.size = g + 1) → w.grownBy w' none → wpList P ops Q rest (a.put o.dst (.slice (some ⟨g, 0, none⟩) m n)) w') :
    wpList P ops Q (o :: rest) a w := by
  refine wpList_plain hg fun K hK' => ?_
  subst hL hC h5
  have hb' : (i.bytes : Int) * (n : Int) ≤ 281474976710656 := by
    have h : ((i.bytes * n : Nat) : Int) ≤ 281474976710656 := by omega
    rwa [Int.natCast_mul] at h
  have h63' : (n : Int) ≤ 9223372036854775807 := by
    have h := b3
    simp [maxLen] at h
    omega
  have hr := run_make (P := P) w t e i z h1 h2 h3 kl kc m n (by omega) (by omega) hb' h63'
  simp only [Int.toNat_natCast] at hr
  unfold Oper.wp
  simp [execOp, hop, hl, hc, hr, Result.andThen]
  refine hK' _ _ (hK w.heap.size _ rfl ?_ ?_ (World.grownBy_alloc w _ none))
  · have e1 : madeCells z.cells (n * i.size) = (List.replicate n z).toArray := by
      rw [hz, h4, Nat.mul_one]
      apply Array.ext'
      rw [toList_madeCells_one]
    rw [e1]
    exact Row.new w e _
  · show _ = _
    simp

/-- 'make([]T, n)', elements of whatever size. -/
theorem law_makeN {P : Program} {w : World} {ops : Array Oper} {rest : List Oper} {o : Oper} {a : Act} {Q : Exit → Act → World → Prop}
    (hg : o.guard = none) (l c : Operand) (t : TypeId) (hop : o.op = Op.makeSlice t l c)
    (e : TypeId) (i : TypeInfo) (z : Value) (size : Nat) (h1 : P.underlying t = some (.slice e)) (h2 : P.info? e = some i) (h3 : i.zero = some z) (h4 : i.size = size)
    (kl kc : IntKind) (La C : Int) (n : Nat) (hl : a.eval l = .int kl La) (hc : a.eval c = .int kc C) (hL : La = (n : Int)) (hC : C = (n : Int)) (b2 : i.bytes * n ≤ 281474976710656) (b3 : n ≤ maxLen)
    (hK : ∀ g w', Hid (g = w.heap.size) → Row w' g e (madeCells z.cells (n * size)).toList → Hid (w'.heap.size = g + 1) → w.grownBy w' none → wpList P ops Q rest (a.put o.dst (.slice (some ⟨g, 0, none⟩) n n)) w') :
    wpList P ops Q (o :: rest) a w := by
  refine wpList_plain hg fun K hK' => ?_
  subst hL hC h4
  have hb' : (i.bytes : Int) * (n : Int) ≤ 281474976710656 := by
    have h : ((i.bytes * n : Nat) : Int) ≤ 281474976710656 := by omega
    rwa [Int.natCast_mul] at h
  have h63' : (n : Int) ≤ 9223372036854775807 := by
    have h := b3
    simp [maxLen] at h
    omega
  have hr := run_make (P := P) w t e i z h1 h2 h3 kl kc n n (by omega) (by omega) hb' h63'
  simp only [Int.toNat_natCast] at hr
  unfold Oper.wp
  simp [execOp, hop, hl, hc, hr, Result.andThen]
  refine hK' _ _ (hK w.heap.size _ rfl (Row.newA w e _) ?_ (World.grownBy_alloc w _ none))
  show _ = _
  simp

theorem made_at (z : Array Value) (S n k o : Nat) (v : Value) (hz : z.size = S) (ho : o < S) (hk : k < n) (hv : z[o]? = some v) : (madeCells z (n * S)).toList[k * S + o]? = some v := by
  have hlt : k * S + o < n * S := by
    have h : (k + 1) * S ≤ n * S := Nat.mul_le_mul_right S hk
    rw [Nat.add_mul] at h; omega
  have hm : (k * S + o) % S = o := by rw [Nat.add_comm, Nat.add_mul_mod_self_right]; exact Nat.mod_eq_of_lt ho
  subst hz
  simp only [madeCells, Array.getElem?_toList, Array.getElem?_map, Array.getElem?_range]
  rw [if_pos hlt]
  simp [hm, getElem!_def, hv]

/-- 'copy(dst, src)', dst in a row of the call's own, src whatever. -/
theorem law_copy {P : Program} {w : World} {ops : Array Oper} {rest : List Oper} {o : Oper} {a : Act} {Q : Exit → Act → World → Prop} (hgd : o.guard = none) (d s : Operand) (dT sT : TypeId)
    (ho : o.op = .call { callee := .builtin .copy, args := #[d, s], argTypes := #[dT, sT] }) (elem : TypeId) (hu : P.underlying dT = some (.slice elem)) (hsz : (P.info? elem).map (·.size) = some 1)
    (g off dLen dCap : Nat) (sp : Option Addr) (sLen sCap : Nat) (hd : a.eval d = .slice (some ⟨g, off, none⟩) dLen dCap) (hs : a.eval s = .slice sp sLen sCap)
    (cur : List Value) (t : TypeId) (hg : Row w g t cur) (cs : List Value) (hn : cs.length = Nat.min sLen dLen)
    (hpos : 0 < cs.length → ∃ ad, sp = some ad ∧ ∀ j v, cs[j]? = some v → w.cell? (ad.add j) = some v)
    (hfit : off + cs.length ≤ cur.length) (h1 : ∀ v ∈ cs, v.oneCell' = true)
    (h : ∀ w', Row w' g t (splice cur off cs) → Hid (w'.heap.size = w.heap.size) → w.grownBy w' (some g) → wpList P ops Q rest (a.put o.dst (goInt cs.length)) w') :
    wpList P ops Q (o :: rest) a w := by
  by_cases h0 : cs.length = 0
  · obtain rfl : cs = [] := List.eq_nil_of_length_eq_zero h0
    refine wpList_copy_nothing hgd d s dT sT ho elem hu hsz (some ⟨g, off, none⟩) sp dLen dCap sLen sCap hd hs (by simpa using hn.symm) ?_
    exact h w (by simpa [splice] using hg) rfl (World.grownBy.refl _ _)
  · obtain ⟨ad, rfl, hsrc⟩ := hpos (by omega)
    refine wpList_copy_own hgd d s dT sT ho elem hu hsz g off dLen dCap ad sLen sCap hd hs cur.toArray t hg cs hn hsrc (by simpa using hfit) h1 ?_
    refine h _ ?_ ?_ ⟨rfl, rfl, rfl, by simp [World.setRow], fun j _ hj => setRow_other w g j _ (by simpa using hj)⟩
    · have := setRow_heap w g _ (List.take off cur.toArray.toList ++ (cs ++ List.drop (off + cs.length) cur.toArray.toList)).toArray t _ hg
      exact this
    · show _ = _
      simp [World.setRow]

/-- A GUARD for the walk's arms: 'with_reducible refine at_copy (.tmp 35) (.tmp 36) ?_' fits at that very call of the builtin copy alone. -/
theorem at_copy {P : Program} {w : World} {ops : Array Oper} {rest : List Oper} {a : Act} {Q : Exit → Act → World → Prop} {dst : Option Tmp} {ty : TypeId} {pos : String} {after : Array Edge} {gd : Option (Nat × Bool)} (d s : Operand) {at' : Array TypeId}
    (h : wpList P ops Q (⟨dst, .call { callee := .builtin .copy, args := #[d, s], argTypes := at' }, ty, pos, after, gd⟩ :: rest) a w) :
    wpList P ops Q (⟨dst, .call { callee := .builtin .copy, args := #[d, s], argTypes := at' }, ty, pos, after, gd⟩ :: rest) a w := h

theorem at_build {P : Program} {w : World} {ops : Array Oper} {rest : List Oper} {a : Act} {Q : Exit → Act → World → Prop} {dst : Option Tmp} {ty : TypeId} {pos : String} {after : Array Edge} {gd : Option (Nat × Bool)} (t : TypeId) {parts : Array (Nat × Operand)}
    (h : wpList P ops Q (⟨dst, .build t parts, ty, pos, after, gd⟩ :: rest) a w) : wpList P ops Q (⟨dst, .build t parts, ty, pos, after, gd⟩ :: rest) a w := h

/-- A composite literal whose cells are known as a whole. -/
theorem law_build {P : Program} {w : World} {ops : Array Oper} {rest : List Oper} {o : Oper} {a : Act} {Q : Exit → Act → World → Prop} (hgd : o.guard = none) (t : TypeId) (parts : Array (Nat × Operand)) (ho : o.op = .build t parts)
    (vals : List (Nat × Value)) (hv : parts.toList.map (fun p => (p.1, a.eval p.2)) = vals) (cells : Array Value) (hc : P.built t vals = some cells)
    (h : wpList P ops Q rest (a.put o.dst (.agg cells)) w) : wpList P ops Q (o :: rest) a w := by
  refine wpList_plain hgd fun K hK => ?_
  have e : (parts.map fun (i, x) => (i, a.eval x)).toList = vals := by rw [← hv, Array.toList_map]
  refine wp_build t parts ho (by rw [e, hc]; rfl) ?_
  rw [e, hc]
  exact hK _ _ h

/-- Numbers as cells. -/
def ints (q : IntKind) (L : List Int) : List Value := L.map (Value.int q)

theorem length_ints (q : IntKind) (L : List Int) : (ints q L).length = L.length := by simp [ints]

theorem ints_one (q : IntKind) (L : List Int) : ∀ v ∈ ints q L, v.oneCell' = true := by
  intro v hv
  simp only [ints, List.mem_map] at hv
  obtain ⟨x, _, rfl⟩ := hv
  rfl

theorem ints_at (q : IntKind) (L : List Int) (k : Nat) (h : k < L.length) : (ints q L)[k]? = some (.int q (L.getD k 0)) := by
  simp [ints, List.getElem?_eq_getElem h]

theorem ints_set (q : IntKind) (L : List Int) (k : Nat) (v : Int) : (ints q L).set k (.int q v) = ints q (L.set k v) := by
  simp [ints, List.map_set]

theorem ints_replicate (q : IntKind) (n : Nat) (v : Int) : List.replicate n (Value.int q v) = ints q (List.replicate n v) := by
  simp [ints]

theorem add_block (x : Addr) (k : Nat) : (x.add k).block = x.block := by unfold Addr.add; split <;> rfl

/-- WHAT THE WALK IS TOLD OF A SLICE OF INTEGERS THAT CAME IN (the shell's own words). -/
def IsRow (k : IntKind) (w : World) (a : Option Addr) (len cap : Nat) (zs : List Int) : Prop :=
  (a = none ∧ len = 0 ∧ cap = 0 ∧ zs = []) ∨
  ∃ x, a = some x ∧ len ≤ cap ∧ cap ≤ maxLen ∧ zs.length = cap ∧ (∀ i, i < zs.length → w.cell? (x.add i) = some (.int k (zs.getD i 0))) ∧ ∀ n ∈ zs, (Lit.int k n).wf = true

section
variable {k : IntKind} {w w' : World} {a : Option Addr} {len cap : Nat} {zs : List Int}

theorem IsRow.lenEq (h : IsRow k w a len cap zs) : (zs.take len).length = len := by
  rcases h with ⟨_, rfl, _, rfl⟩ | ⟨_, _, h1, _, h2, _⟩ <;> simp <;> omega

theorem IsRow.nil (h : IsRow k w a len cap zs) : a = none → len = 0 ∧ cap = 0 := by
  rcases h with ⟨_, h1, h2, _⟩ | ⟨_, h1, _⟩
  · exact fun _ => ⟨h1, h2⟩
  · intro h; rw [h1] at h; cases h

/-- An element's cell. -/
theorem IsRow.at (h : IsRow k w a len cap zs) (hb : Below w.heap.size w w') {x : Addr} (hx : a = some x) (i : Nat) (hi : i < len) :
    w'.cell? (x.add i) = some (.int k ((zs.take len).getD i 0)) ∧ x.block < w.heap.size := by
  rcases h with ⟨h1, _⟩ | ⟨y, h1, h2, _, h4, h5, _⟩
  · rw [h1] at hx; cases hx
  · rw [h1] at hx; cases hx
    have hc := h5 i (by omega)
    have hlt : x.block < w.heap.size := by have := block_lt_of_cell hc; rwa [add_block] at this
    refine ⟨?_, hlt⟩
    rw [hb.cell (by rw [add_block]; exact hlt), hc]
    simp [hi]

theorem IsRow.pos (h : IsRow k w a len cap zs) (hb : Below w.heap.size w w') :
    0 < (ints k (zs.take len)).length → ∃ ad, a = some ad ∧ ∀ j v, (ints k (zs.take len))[j]? = some v → w'.cell? (ad.add j) = some v := by
  intro h0
  rw [length_ints, h.lenEq] at h0
  cases a with
  | none => have := (h.nil rfl).1; omega
  | some x =>
    refine ⟨x, rfl, fun j v hj => ?_⟩
    have hlen := h.lenEq
    have hjl : j < len := by
      have := (List.getElem?_eq_some_iff.1 hj).1
      rw [length_ints, hlen] at this; exact this
    rw [Rk.ints_at _ _ _ (by omega)] at hj
    cases hj
    exact (h.at hb rfl j hjl).1
end

/-- 'append(dst, src...)', dst a slice over a row of the call's own (elements of one cell), src whatever. -/
theorem run_app {P : Program} (w : World) (t ty e : TypeId) (i : TypeInfo) (z : Value) (bytes : Nat) (ht : P.underlying t = some (.slice e)) (hi : P.info? e = some i) (hz : i.zero = some z) (hsize : i.size = 1) (hby : i.bytes = bytes) (hzc : z.cells.size = 1)
    (g n cap : Nat) (cur : List Value) (hg : Row w g e cur) (hnc : n ≤ cap) (hcm : cap ≤ maxLen) (hcl : cur.length = cap)
    (ao : Option Addr) (m c : Nat) (news : List Value) (hl : news.length = m) (hno : ao = none → m = 0 ∧ c = 0) (hpos : ∀ ad, ao = some ad → ∀ j u, news[j]? = some u → w.cell? (ad.add j) = some u)
    (h1 : ∀ u ∈ news, u.oneCell' = true) (h63 : n + m ≤ maxLen) (hbytes : (n + m) * bytes ≤ 140737488355328) :
    ∃ g' cap' cur' w', (Builtin.append_ #[t, t] ty #[.slice (some ⟨g, 0, none⟩) n cap, .slice ao m c]).run P w = .ok (.slice (some ⟨g', 0, none⟩) (n + m) cap') w' ∧ Row w' g' e cur' ∧ n + m ≤ cap' ∧ cap' ≤ maxLen ∧ cur'.length = cap' ∧
      cur'.take (n + m) = cur.take n ++ news ∧ w.grownBy w' (some g) ∧ (g' = g ∨ g' = w.heap.size) := by
  have hown : w.ownsRow 0 e 1 (.slice (some ⟨g, 0, none⟩) n cap) n (cur.take n) := ⟨by simp; omega, .inr ⟨g, cap, cur.toArray, rfl, Nat.zero_le _, hg, hnc, hcm, by simp [hcl], by simp⟩⟩
  cases ao with
  | none =>
    obtain ⟨rfl, rfl⟩ := hno rfl
    obtain rfl : news = [] := List.eq_nil_of_length_eq_zero hl
    have hr := run_append_owned_none (P := P) (w := w) 0 t ty e i 1 ht hi _ n _ hown
    exact ⟨g, cap, cur, w, hr, hg, hnc, hcm, hcl, by simp, World.grownBy.refl _ _, .inl rfl⟩
  | some ad =>
    obtain ⟨v', w', hr, ho, hgr, hn, hloc⟩ := run_append_own_at (P := P) w 0 t ty e i z 1 bytes ht hi hz hsize hby hzc (by decide) _ n _ hown ad m c news (by simpa using hl) (hpos ad rfl) h1 h63 hbytes (Nat.zero_le _)
    rcases ho.2 with ⟨rfl, _⟩ | ⟨g', cap', cur', rfl, _, hg', hnc', hcm', hcs', htk⟩
    · simp at hn
    · refine ⟨g', cap', cur'.toList, w', hr, hg', hnc', hcm', by simpa using hcs', by simpa using htk, hgr, ?_⟩
      rcases hloc with h | h
      · left; simpa [Value.ownBlock] using h
      · right; simpa [Value.ownBlock] using h

/-- The same as a law for the walk. -/
theorem law_append {P : Program} {w : World} {ops : Array Oper} {rest : List Oper} {o : Oper} {a : Act} {Q : Exit → Act → World → Prop} (hgd : o.guard = none) (s x : Operand) (t : TypeId)
    (ho : o.op = .call { callee := .builtin .append, args := #[s, x], argTypes := #[t, t] })
    (e : TypeId) (i : TypeInfo) (z : Value) (bytes : Nat) (ht : P.underlying t = some (.slice e)) (hi : P.info? e = some i) (hz : i.zero = some z) (hsize : i.size = 1) (hby : i.bytes = bytes) (hzc : z.cells.size = 1)
    (g n cap : Nat) (cur : List Value) (hs : a.eval s = .slice (some ⟨g, 0, none⟩) n cap) (hg : Row w g e cur) (hnc : n ≤ cap) (hcm : cap ≤ maxLen) (hcl : cur.length = cap)
    (ao : Option Addr) (m c : Nat) (news : List Value) (hx : a.eval x = .slice ao m c) (hl : news.length = m) (hno : ao = none → m = 0 ∧ c = 0) (hpos : ∀ ad, ao = some ad → ∀ j u, news[j]? = some u → w.cell? (ad.add j) = some u)
    (h1 : ∀ u ∈ news, u.oneCell' = true) (h63 : n + m ≤ maxLen) (hbytes : (n + m) * bytes ≤ 140737488355328)
    (h : ∀ g' cap' cur' w', Row w' g' e cur' → n + m ≤ cap' → Hid (cap' ≤ maxLen) → Hid (cur'.length = cap') → Hid (cur'.take (n + m) = cur.take n ++ news) → w.grownBy w' (some g) → Hid (g' = g ∨ g' = w.heap.size) →
      wpList P ops Q rest (a.put o.dst (.slice (some ⟨g', 0, none⟩) (n + m) cap')) w') :
    wpList P ops Q (o :: rest) a w := by
  refine wpList_plain hgd fun K hK => ?_
  obtain ⟨g', cap', cur', w', hr, q1, q2, q3, q4, q5, q6, q7⟩ := run_app w t o.type e i z bytes ht hi hz hsize hby hzc g n cap cur hg hnc hcm hcl ao m c news hl hno hpos h1 h63 hbytes
  unfold Oper.wp execOp
  simp only [ho, resolve, invoke, builtin, Sem.run_bind, Sem.run_pure, Result.andThen_ok, List.map_toArray, List.map_cons, List.map_nil, hs, hx, hr]
  exact hK _ _ (h g' cap' cur' w' q1 q2 q3 q4 q5 q6 q7)

/-- The same as one step of a region that draws its order. -/
theorem step_append {P : Program} {ops : Array Oper} {o : Oper} {a : Act} {w : World} {K : Act → World → Prop} {Q : Exit → Act → World → Prop} {E : Prop} (hgd : o.guard = none) (s x : Operand) (t : TypeId)
    (ho : o.op = .call { callee := .builtin .append, args := #[s, x], argTypes := #[t, t] })
    (e : TypeId) (i : TypeInfo) (z : Value) (bytes : Nat) (ht : P.underlying t = some (.slice e)) (hi : P.info? e = some i) (hz : i.zero = some z) (hsize : i.size = 1) (hby : i.bytes = bytes) (hzc : z.cells.size = 1)
    (g n cap : Nat) (cur : List Value) (hs : a.eval s = .slice (some ⟨g, 0, none⟩) n cap) (hg : Row w g e cur) (hnc : n ≤ cap) (hcm : cap ≤ maxLen) (hcl : cur.length = cap)
    (ao : Option Addr) (m c : Nat) (news : List Value) (hx : a.eval x = .slice ao m c) (hl : news.length = m) (hno : ao = none → m = 0 ∧ c = 0) (hpos : ∀ ad, ao = some ad → ∀ j u, news[j]? = some u → w.cell? (ad.add j) = some u)
    (h1 : ∀ u ∈ news, u.oneCell' = true) (h63 : n + m ≤ maxLen) (hbytes : (n + m) * bytes ≤ 140737488355328)
    (h : ∀ g' cap' cur' w', Row w' g' e cur' → n + m ≤ cap' → Hid (cap' ≤ maxLen) → Hid (cur'.length = cap') → Hid (cur'.take (n + m) = cur.take n ++ news) → w.grownBy w' (some g) → Hid (g' = g ∨ g' = w.heap.size) →
      K (a.put o.dst (.slice (some ⟨g', 0, none⟩) (n + m) cap')) w') :
    if Region.wanted o (yielded ops a.tmps) = true then Oper.wp P o a w K Q else E := by
  have hw : Region.wanted o (yielded ops a.tmps) = true := by simp [Region.wanted, hgd]
  rw [if_pos hw]
  obtain ⟨g', cap', cur', w', hr, q1, q2, q3, q4, q5, q6, q7⟩ := run_app w t o.type e i z bytes ht hi hz hsize hby hzc g n cap cur hg hnc hcm hcl ao m c news hl hno hpos h1 h63 hbytes
  unfold Oper.wp execOp
  simp only [ho, resolve, invoke, builtin, Sem.run_bind, Sem.run_pure, Result.andThen_ok, List.map_toArray, List.map_cons, List.map_nil, hs, hx, hr]
  exact h g' cap' cur' w' q1 q2 q3 q4 q5 q6 q7

end Go.Rk
