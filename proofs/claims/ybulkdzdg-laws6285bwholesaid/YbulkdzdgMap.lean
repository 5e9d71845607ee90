import Derived.Test.YbulkdzdgTime
import Derived.Laws.StructEq
import Derived.Maps.OwnSet
import Derived.Maps.OwnOps
import Derived.Conc.SmallLaws
import Derived.LaidEql
namespace Go.Proofs.Ybulkdzdg
open Go.RowKit Go.Rk Go.Maps
set_option linter.unusedVariables false
set_option linter.unusedSimpArgs false

/-- A time.Time value without a location. -/
abbrev tv (x y : Int) : Value := .agg #[.int .u64 x, .int .i64 y, .pointer none]

/-- How an element of the map reads. -/
def timeElem : Value → Option (DataW Unit × List MemPlace)
  | .agg cs => match cs.toList with
    | [.int .u64 x, .int .i64 y, .pointer none] => some (.agg [.lit (.int .u64 x), .lit (.int .i64 y), .nil], [])
    | _ => none
  | _ => none

theorem timeElem_mk (x y : Int) : timeElem (tv x y) = some (.agg [.lit (.int .u64 x), .lit (.int .i64 y), .nil], []) := rfl

theorem timeElem_inv {v : Value} {z : DataW Unit × List MemPlace} (h : timeElem v = some z) : ∃ x y, v = tv x y ∧ z = (.agg [.lit (.int .u64 x), .lit (.int .i64 y), .nil], []) := by
  unfold timeElem at h
  split at h
  · rename_i cs
    split at h
    · rename_i x y hcs
      refine ⟨x, y, ?_, by simpa using h.symm⟩
      have : cs = #[.int .u64 x, .int .i64 y, .pointer none] := by
        apply Array.ext'; simpa using hcs
      rw [this]
    · cases h
  · cases h

theorem timeElem_inj {x y x' y' : Int} {d : DataW Unit} {ps ps' : List MemPlace} (h : timeElem (tv x y) = some (d, ps)) (h' : timeElem (tv x' y') = some (d, ps')) : x = x' ∧ y = y' := by
  rw [timeElem_mk] at h h'
  simp only [Option.some.injEq, Prod.mk.injEq] at h h'
  have e := h.1.trans h'.1.symm
  simp at e
  exact e

theorem law25 : Keyed Yba.prog 25 := int_keyed Yba.underlying25
theorem zero28 (w : World) : (zeroValue 28).run Yba.prog w = .ok (tv 0 0) w := by kernel_rfl
abbrev zd : DataW Unit := .agg [.lit (.int .u64 0), .lit (.int .i64 0), .nil]

set_option maxRecDepth 100000 in
theorem time_neq (x y : Int) (w : World) : (binOp .neq 28 (.agg #[.int .u64 x, .int .i64 y, .pointer none]) (.agg #[.int .u64 x, .int .i64 y, .pointer none])).run Yba.prog w = .ok (.bool false) w := by
  have hp : ∀ d : Nat, (Op.equalIn (d + 1) 26 (.pointer none) (.pointer none)).run Yba.prog w = .ok true w := fun d => by simp [Op.equalIn, run_underlying Yba.underlying26]
  go_simp

theorem chan_neq (a : Option Nat) (w : World) : (binOp .neq 34 (.chan a) (.chan a)).run Yba.prog w = .ok (.bool false) w := by
  have h : ∀ d : Nat, (Op.equalIn (d + 1) 34 (.chan a) (.chan a)).run Yba.prog w = .ok true w := fun d => by
    simp [Op.equalIn, run_underlying Yba.underlying34]
  simp only [binOp]
  simp [Op.equal, Op.maxDepth, h 9999]

theorem chan_nil (g : Nat) (w : World) : (binOp .neq 32 (.chan (some g)) (.chan none)).run Yba.prog w = .ok (.bool true) w := by
  have h : ∀ d : Nat, (Op.equalIn (d + 1) 32 (.chan (some g)) (.chan none)).run Yba.prog w = .ok false w := fun d => by
    simp [Op.equalIn, run_underlying Yba.underlying32]
  simp only [binOp]
  simp [Op.equal, Op.maxDepth, h 9999]

theorem chan_nn (w : World) : (binOp .neq 32 (.chan none) (.chan none)).run Yba.prog w = .ok (.bool false) w := by
  have h : ∀ d : Nat, (Op.equalIn (d + 1) 32 (.chan none) (.chan none)).run Yba.prog w = .ok true w := fun d => by
    simp [Op.equalIn, run_underlying Yba.underlying32]
  simp only [binOp]
  simp [Op.equal, Op.maxDepth, h 9999]

theorem chan_len (g n : Nat) (w : World) (h : w.heap[g]? = some (.chan n #[] false 0 0 false)) : (Builtin.len_ #[32] 3 #[.chan (some g)]).run Yba.prog w = .ok (.int .i64 0) w := by
  have hr : (getObj g).run Yba.prog w = .ok (.chan n #[] false 0 0 false) w := by simp [getObj, Sem.run, h]
  simp [Builtin.len_, run_underlying Yba.underlying32, hr, goInt, Result.andThen]

theorem info36B : ((Yba.prog.info? 36).map (·.size)).isSome = true := by kernel_rfl
theorem ptr_neq_same (a : Addr) (w : World) : (binOp .neq 33 (.pointer (some a)) (.pointer (some a))).run Yba.prog w = .ok (.bool false) w := by
  obtain ⟨s, hs⟩ := Option.isSome_iff_exists.1 info36B
  obtain ⟨j, hj, _⟩ := Option.map_eq_some_iff.1 hs
  have h : ∀ d : Nat, (Op.equalIn (d + 1) 33 (.pointer (some a)) (.pointer (some a))).run Yba.prog w = .ok true w := fun d => by
    simp [Op.equalIn, run_underlying Yba.underlying33, sizeOf, typeInfo, hj, run_sameAddr_same]
  simp only [binOp]
  simp [Op.equal, Op.maxDepth, h 9999]
theorem ptr_neq_nil (w : World) : (binOp .neq 33 (.pointer none) (.pointer none)).run Yba.prog w = .ok (.bool false) w := by
  have h : ∀ d : Nat, (Op.equalIn (d + 1) 33 (.pointer none) (.pointer none)).run Yba.prog w = .ok true w := fun d => by
    simp [Op.equalIn, run_underlying Yba.underlying33]
  simp only [binOp]
  simp [Op.equal, Op.maxDepth, h 9999]

/-- 'm[k]', the element a time. -/
theorem law_look {P : Program} (w : World) {ops : Array Oper} {rest : List Oper} {o : Oper} {a : Act} {Q : Exit → Act → World → Prop}
    (hg : o.guard = none) (m x : Operand) (t : TypeId) (hop : o.op = Op.lookup t m x false)
    (k e : TypeId) (K : Keyed P k) (ht : P.underlying t = some (.map k e)) (hz : (zeroValue e).run P w = .ok (tv 0 0) w) (b n : Nat) (D : DataW Unit)
    (hm : a.eval m = .map (some b)) (hown : w.ownsMap P k timeElem b n D) (key : Value) (kl : Lit) (hx : a.eval x = key) (hkey : keyOf P k key = some kl)
    (hK : ∀ p q : Int, Hid (timeElem (tv p q) = some (D.atKey kl zd, [])) → wpList P ops Q rest (a.put o.dst (.agg #[.int .u64 p, .int .i64 q, .pointer none])) w) :
    wpList P ops Q (o :: rest) a w := by
  refine wpList_plain hg fun K' hK' => ?_
  obtain ⟨v, ps, hrun, hv⟩ := hown.lookup K ht hz (timeElem_mk 0 0) hkey
  obtain ⟨p, q, rfl, hpq⟩ := timeElem_inv hv
  simp only [Prod.mk.injEq] at hpq
  obtain ⟨h1, rfl⟩ := hpq
  unfold Oper.wp
  simp [execOp, hop, hm, hx, hrun, Result.andThen]
  exact hK' _ _ (hK p q hv)

theorem law_look_ok {P : Program} (w : World) {ops : Array Oper} {rest : List Oper} {o : Oper} {a : Act} {Q : Exit → Act → World → Prop}
    (hg : o.guard = none) (m x : Operand) (t : TypeId) (hop : o.op = Op.lookup t m x true)
    (k e : TypeId) (K : Keyed P k) (ht : P.underlying t = some (.map k e)) (hz : (zeroValue e).run P w = .ok (tv 0 0) w) (b n : Nat) (D : DataW Unit)
    (hm : a.eval m = .map (some b)) (hown : w.ownsMap P k timeElem b n D) (key : Value) (kl : Lit) (hx : a.eval x = key) (hkey : keyOf P k key = some kl) (hhas : Maps.has D kl = true)
    (p q : Int) (hpq : timeElem (tv p q) = some (D.atKey kl zd, []))
    (hK : wpList P ops Q rest (a.put o.dst (.tuple #[.agg #[.int .u64 p, .int .i64 q, .pointer none], .bool true])) w) :
    wpList P ops Q (o :: rest) a w := by
  refine wpList_plain hg fun K' hK' => ?_
  obtain ⟨v, ps, hrun, hv⟩ := hown.look_ok K ht hz (timeElem_mk 0 0) hkey
  obtain ⟨p', q', rfl, _⟩ := timeElem_inv hv
  obtain ⟨rfl, rfl⟩ := timeElem_inj hpq hv
  rw [hhas] at hrun
  unfold Oper.wp
  simp [execOp, hop, hm, hx, hrun, Result.andThen]
  exact hK' _ _ hK

/-- All of the first k keys are there. -/
def HasTo (D : DataW Unit) (K : List Int) (k : Nat) : Prop := ∀ i, i < k → Maps.has D (.int .u64 (K.getD i 0)) = true

theorem hasTo_put {D : DataW Unit} {K : List Int} {k : Nat} (h : HasTo D K k) (hD : IsMap D) (d : DataW Unit) : HasTo (D.put (.int .u64 (K.getD k 0)) d) K (k + 1) := by
  intro i hi
  by_cases e : (Lit.int .u64 (K.getD i 0)) = .int .u64 (K.getD k 0)
  · rw [e]; exact has_put_same hD (by simp [WideAt.IsKeyLit]) d
  · rw [has_put_other e d]
    have : i ≠ k := fun h' => e (by rw [h'])
    exact h i (by omega)

/-- The first k places of the row 'snap' hold what the map has at the first k keys. -/
def SnapOk (L : List Value) (n : Nat) (D : DataW Unit) (K : List Int) (k : Nat) : Prop :=
  L.length = n * 3 ∧ ∀ i, i < k → ∃ p q : Int, L[i * 3]? = some (.int .u64 p) ∧ L[i * 3 + 1]? = some (.int .i64 q) ∧ L[i * 3 + 2]? = some (.pointer none) ∧ timeElem (tv p q) = some (D.atKey (.int .u64 (K.getD i 0)) zd, [])

theorem snapOk_step {L : List Value} {n k : Nat} {D : DataW Unit} {K : List Int} {p q : Int} (h : SnapOk L n D K k) (hk : k < n) (hpq : timeElem (tv p q) = some (D.atKey (.int .u64 (K.getD k 0)) zd, [])) :
    SnapOk (((L.set (k * 3) (.int .u64 p)).set (k * 3 + 1) (.int .i64 q)).set (k * 3 + 2) (.pointer none)) n D K (k + 1) := by
  have hl := h.1
  refine ⟨by simp [hl], fun i hi => ?_⟩
  by_cases e : i = k
  · subst e
    refine ⟨p, q, ?_, ?_, ?_, hpq⟩
    · rw [List.getElem?_set_ne (by omega), List.getElem?_set_ne (by omega), List.getElem?_set_self (by omega)]
    · rw [List.getElem?_set_ne (by omega), List.getElem?_set_self (by simp; omega)]
    · rw [List.getElem?_set_self (by simp; omega)]
  · obtain ⟨p', q', h1, h2, h3, h4⟩ := h.2 i (by omega)
    refine ⟨p', q', ?_, ?_, ?_, h4⟩
    · rw [List.getElem?_set_ne (by omega), List.getElem?_set_ne (by omega), List.getElem?_set_ne (by omega)]; exact h1
    · rw [List.getElem?_set_ne (by omega), List.getElem?_set_ne (by omega), List.getElem?_set_ne (by omega)]; exact h2
    · rw [List.getElem?_set_ne (by omega), List.getElem?_set_ne (by omega), List.getElem?_set_ne (by omega)]; exact h3

end Go.Proofs.Ybulkdzdg
