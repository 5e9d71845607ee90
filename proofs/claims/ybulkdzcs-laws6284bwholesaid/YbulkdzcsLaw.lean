import Derived.Test.YbulkdzcsApp3
import Derived.ProofKit
import Derived.OpenShut
namespace Go.Proofs.Ybulkdzcs
open Go.RowKit Go.Rk
set_option linter.unusedVariables false
set_option linter.unusedSimpArgs false

theorem b_splice_all {α : Type} (Z X : List α) (h : X.length = Z.length) : splice Z 0 X = X := by
  simp [splice, h]

/-- The five blocks behind the three copies: the four errors and the file. -/
theorem stageF (w : World) (S1 S2 S3 S4 : ByteArray) (F : List Value) :
    Row (((((w.alloc (.cells #[.string S1] 65)).alloc (.cells #[.string S2] 65)).alloc (.cells #[.string S3] 65)).alloc (.cells #[.string S4] 65)).alloc (.cells F.toArray 57)) w.heap.size 65 [.string S1] ∧
    Row (((((w.alloc (.cells #[.string S1] 65)).alloc (.cells #[.string S2] 65)).alloc (.cells #[.string S3] 65)).alloc (.cells #[.string S4] 65)).alloc (.cells F.toArray 57)) (w.heap.size + 1) 65 [.string S2] ∧
    Row (((((w.alloc (.cells #[.string S1] 65)).alloc (.cells #[.string S2] 65)).alloc (.cells #[.string S3] 65)).alloc (.cells #[.string S4] 65)).alloc (.cells F.toArray 57)) (w.heap.size + 1 + 1) 65 [.string S3] ∧
    Row (((((w.alloc (.cells #[.string S1] 65)).alloc (.cells #[.string S2] 65)).alloc (.cells #[.string S3] 65)).alloc (.cells #[.string S4] 65)).alloc (.cells F.toArray 57)) (w.heap.size + 1 + 1 + 1) 65 [.string S4] ∧
    Row (((((w.alloc (.cells #[.string S1] 65)).alloc (.cells #[.string S2] 65)).alloc (.cells #[.string S3] 65)).alloc (.cells #[.string S4] 65)).alloc (.cells F.toArray 57)) (w.heap.size + 1 + 1 + 1 + 1) 57 F ∧
    w.grownBy (((((w.alloc (.cells #[.string S1] 65)).alloc (.cells #[.string S2] 65)).alloc (.cells #[.string S3] 65)).alloc (.cells #[.string S4] 65)).alloc (.cells F.toArray 57)) none := by
  have h1 := Row.newA w 65 #[.string S1]
  have G1 := World.grownBy_alloc w (.cells #[.string S1] 65) none
  generalize hA : w.alloc (.cells #[.string S1] 65) = wA at *
  have s1 : wA.heap.size = w.heap.size + 1 := by rw [← hA]; simp
  have h2 := Row.newA wA 65 #[.string S2]
  have h1b := h1.alloc (.cells #[.string S2] 65)
  have G2 := G1.trans (World.grownBy_alloc wA (.cells #[.string S2] 65) none)
  generalize hB : wA.alloc (.cells #[.string S2] 65) = wB at *
  have s2 : wB.heap.size = w.heap.size + 1 + 1 := by rw [← hB]; simp [s1]
  have h3 := Row.newA wB 65 #[.string S3]
  have h2c := h2.alloc (.cells #[.string S3] 65)
  have h1c := h1b.alloc (.cells #[.string S3] 65)
  have G3 := G2.trans (World.grownBy_alloc wB (.cells #[.string S3] 65) none)
  generalize hC : wB.alloc (.cells #[.string S3] 65) = wC at *
  have s3 : wC.heap.size = w.heap.size + 1 + 1 + 1 := by rw [← hC]; simp [s2]
  have h4 := Row.newA wC 65 #[.string S4]
  have h3d := h3.alloc (.cells #[.string S4] 65)
  have h2d := h2c.alloc (.cells #[.string S4] 65)
  have h1d := h1c.alloc (.cells #[.string S4] 65)
  have G4 := G3.trans (World.grownBy_alloc wC (.cells #[.string S4] 65) none)
  generalize hE : wC.alloc (.cells #[.string S4] 65) = wD at *
  have s4 : wD.heap.size = w.heap.size + 1 + 1 + 1 + 1 := by rw [← hE]; simp [s3]
  have h5 := Row.new wD 57 F
  rw [s1] at h2d
  rw [s2] at h3d
  rw [s3] at h4
  rw [s4] at h5
  exact ⟨h1d.alloc _, h2d.alloc _, h3d.alloc _, h4.alloc _, h5, G4.trans (World.grownBy_alloc wD _ none)⟩

/-- '==' between an error and itself. -/
theorem err_eq (a : Nat) (w : World) : (binOp .eql 54 (.iface 63 (.pointer (some ⟨a, 0, none⟩))) (.iface 63 (.pointer (some ⟨a, 0, none⟩)))).run Yba.prog w = .ok (.bool true) w := by
  obtain ⟨i, hi, hcmp⟩ := Option.map_eq_some_iff.1 isComp
  obtain ⟨j, hj, hjs⟩ := Option.map_eq_some_iff.1 isSize
  exact run_eql_iface_ptr_same (P := Yba.prog) w ⟨a, 0, none⟩ Yba.underlying54 Yba.underlying63 hi hcmp hj

theorem Row.drewNr {w : World} {g : Nat} {t : TypeId} {L : List Value} (h : Row w g t L) (n : Nat) : Row (w.drewN n) g t L := h

theorem reads_in {w w' : World} {a : Option Addr} {len cap : Nat} {zs : List Int} (h : IsRow .u8 w a len cap zs) (hb : Below w.heap.size w w') : Reads w' a len (zs.take len) := by
  refine ⟨h.lenEq, fun i hi => ?_⟩
  cases a with
  | none => have := (h.nil rfl).1; omega
  | some x => exact ⟨x, rfl, (h.at hb rfl i hi).1⟩

theorem lines_ok {w w' : World} {a : Option Addr} {len cap : Nat} {zs : List Int} {gF gD : Nat} (h : IsRow .u8 w a len cap zs) (hb : Below w.heap.size w w') (h1 : w.heap.size ≤ gF) (h2 : w.heap.size ≤ gD) : LinesOk w' a len cap (zs.take len) gF gD := by
  refine ⟨h.lenEq, ?_, h.nil, fun ad had j u hj => ?_⟩
  · rcases h with ⟨_, rfl, rfl, _⟩ | ⟨_, _, h1, _⟩
    · exact Nat.le_refl _
    · exact h1
  · have hjl : j < len := by
      have := (List.getElem?_eq_some_iff.1 hj).1
      rw [length_ints, h.lenEq] at this; exact this
    have hat := h.at hb had j hjl
    rw [Rk.ints_at _ _ _ (by have := h.lenEq; omega)] at hj
    cases hj
    exact ⟨hat.1, by omega, by omega⟩

theorem rowPos {w : World} {g : Nat} {t : TypeId} {L : List Value} (h : Row w g t L) : ∀ ad, some (⟨g, 0, none⟩ : Addr) = some ad → ∀ j u, L[j]? = some u → w.cell? (ad.add j) = some u := by
  intro ad had j u hj
  cases had
  have e : (⟨g, 0, none⟩ : Addr).add j = ⟨g, j, none⟩ := by
    unfold Addr.add; split <;> simp_all
  rw [e]; exact h.cell hj

theorem takePos {w : World} {g m : Nat} {t : TypeId} {cur L : List Value} (h : Row w g t cur) (ht : cur.take m = L) : ∀ ad, some (⟨g, 0, none⟩ : Addr) = some ad → ∀ j u, L[j]? = some u → w.cell? (ad.add j) = some u := by
  intro ad had j u hj
  refine rowPos h ad had j u ?_
  rw [← ht] at hj
  have hjl := (List.getElem?_eq_some_iff.1 hj).1
  rw [← hj, List.getElem?_take_of_lt (by simp at hjl; omega)]

theorem locOf {V u : World} {g g' : Nat} (hb : Below V.heap.size V u) (hg : V.heap.size ≤ g) (h : g' = g ∨ g' = u.heap.size) : V.heap.size ≤ g' := by
  rcases h with rfl | rfl
  · exact hg
  · exact hb.size

theorem locOf' {V u : World} {o : Obj} {g g' : Nat} (hb : Below V.heap.size V u) (hg : V.heap.size ≤ g) (h : g' = g ∨ g' = (u.alloc o).heap.size) : V.heap.size ≤ g' := by
  rcases h with rfl | rfl
  · exact hg
  · have := hb.size; simp; omega

theorem payEq {len1 : Nat} {P : List Int} {c2 c3 : List Value} (h2 : c2.take (0 + 1) = (List.replicate (len1 + 1) (Value.int .u8 0)).take 0 ++ [.int .u8 10]) (h3 : c3.take (1 + len1) = c2.take 1 ++ ints .u8 P) : c3.take (1 + len1) = ints .u8 (10 :: P) := by
  have h2' : c2.take 1 = [.int .u8 10] := by simpa using h2
  rw [h3, h2']; simp [ints]

theorem payEq0 {len1 : Nat} {P : List Int} {c3 Z : List Value} (h3 : c3.take (0 + len1) = Z.take 0 ++ ints .u8 P) : c3.take len1 = ints .u8 P := by
  simpa using h3

theorem wantEq {n m : Nat} {D Q : List Int} {c5 c6 Z : List Value} (hD : D.length = n) (h5 : c5.take (0 + n) = Z.take 0 ++ ints .u8 D) (h6 : c6.take (n + m) = c5.take n ++ ints .u8 Q) : c6.take (n + m) = ints .u8 (D ++ Q) := by
  have h5' : c5.take n = ints .u8 D := by simpa using h5
  rw [h6, h5']; simp [ints]

theorem takeTake {m q : Nat} {L : List Int} {c : List Value} (h : c.take m = ints .u8 L) (hq : q ≤ m) : c.take q = ints .u8 (L.take q) := by
  have e : (c.take m).take q = c.take q := by rw [List.take_take]; congr 1; omega
  rw [← e, h]; simp [ints, List.map_take]

theorem at_mk {P : Program} {w : World} {ops : Array Oper} {rest : List Oper} {a : Act} {Q : Exit → Act → World → Prop} {dst : Option Tmp} {ty : TypeId} {pos : String} {after : Array Edge} {gd : Option (Nat × Bool)} {t : TypeId} {l : Operand} (c : Operand)
    (h : wpList P ops Q (⟨dst, .makeSlice t l c, ty, pos, after, gd⟩ :: rest) a w) : wpList P ops Q (⟨dst, .makeSlice t l c, ty, pos, after, gd⟩ :: rest) a w := h

theorem at_app {P : Program} {w : World} {ops : Array Oper} {rest : List Oper} {a : Act} {Q : Exit → Act → World → Prop} {dst : Option Tmp} {ty : TypeId} {pos : String} {after : Array Edge} {gd : Option (Nat × Bool)} (d : Operand) {s : Operand} {at' : Array TypeId}
    (h : wpList P ops Q (⟨dst, .call { callee := .builtin .append, args := #[d, s], argTypes := at' }, ty, pos, after, gd⟩ :: rest) a w) :
    wpList P ops Q (⟨dst, .call { callee := .builtin .append, args := #[d, s], argTypes := at' }, ty, pos, after, gd⟩ :: rest) a w := h

end Go.Proofs.Ybulkdzcs
