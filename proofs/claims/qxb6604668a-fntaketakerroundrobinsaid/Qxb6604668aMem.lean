/-
  Memory, over any program: 'make' of one-cell elements as an exact world; a store into a block that is written out; a slice of strings that came in.
-/
import Derived.Test.Qxb6604668aPmap
import Derived.OwnWalk
import Derived.Deep.Draws
import Derived.Laws.OwnMore
namespace Go.Proofs.Qxb6604668a
open Go.RowKit

theorem madeCells_one (z : Value) (n : Nat) : madeCells #[z] n = (List.replicate n z).toArray := by
  apply Array.toList_inj.1
  rw [toList_madeCells_one]

/-- 'make([]T, n)' at the operation, T of one cell: the world is known. -/
theorem wpList_make_rep {P : Program} (w : World) {ops : Array Oper} {rest : List Oper} {o : Oper} {a : Act} {Q : Exit → Act → World → Prop}
    (hg : o.guard = none) (l c : Operand) (t : TypeId) (hop : o.op = Op.makeSlice t l c) (e : TypeId) (z : Value) (by8 : Nat) (h1 : P.underlying t = some (.slice e)) (h2 : (P.info? e).map (fun i => (i.zero, i.size, i.bytes)) = some (some z, 1, by8)) (hz : z.cells = #[z])
    (n : Nat) (hl : a.eval l = .int .i64 n) (hc : a.eval c = .int .i64 n) (b2 : by8 * n ≤ 281474976710656) (b3 : n ≤ maxLen)
    (hK : wpList P ops Q rest (a.put o.dst (.slice (some ⟨w.heap.size, 0, none⟩) n n)) (w.alloc (.cells (List.replicate n z).toArray e))) : wpList P ops Q (o :: rest) a w := by
  obtain ⟨i, hi, hz0, hz1, hz2⟩ := info_parts h2
  refine wpList_plain hg fun K hK' => ?_
  have hrun := run_make (P := P) w t e i z h1 hi hz0 .i64 .i64 (n : Int) (n : Int) (by omega) (by omega) (by rw [hz2]; omega) (by unfold maxLen at b3; omega)
  rw [hz1, hz, Nat.mul_one, Int.toNat_natCast, madeCells_one] at hrun
  unfold Oper.wp
  simp [execOp, hop, hl, hc, hrun, Result.andThen]
  exact hK' _ _ (by simpa using hK)

/-- A store into a block that is written out. -/
theorem block_setCell {w : World} {b i : Nat} {vs : Array Value} {t : TypeId} (h : w.heap[b]? = some (.cells vs t (0, 0))) (u : Value) : (w.setCell ⟨b, i, none⟩ u).heap[b]? = some (.cells (vs.setIfInBounds i u) t (0, 0)) := by
  have hlt := lt_of_block h
  have h' : w.heap[b] = .cells vs t (0, 0) := by simpa [Array.getElem?_eq_getElem hlt] using h
  show (w.heap.modify b _)[b]? = _
  rw [Array.getElem?_eq_getElem (by simpa using hlt), Array.getElem_modify_self, h']
  rfl

theorem cell_some {w : World} {b i : Nat} {vs : Array Value} {t : TypeId} (h : w.heap[b]? = some (.cells vs t (0, 0))) (hi : i < vs.size) : ∃ v, w.cell? ⟨b, i, none⟩ = some v :=
  ⟨vs[i], by rw [cell_in h]; exact Array.getElem?_eq_getElem hi⟩

/-- A slice of strings that came in: its elements. -/
structure IsStrs (w : World) (a : Option Addr) (len cap : Nat) (ss : List ByteArray) : Prop where
  hlen : ss.length = len
  hnil : a = none → len = 0 ∧ cap = 0
  fits : ∀ s ∈ ss, s.size ≤ maxLen
  cells : 0 < len → ∃ b off, a = some ⟨b, off, none⟩ ∧ ∀ j, j < len → w.cell? ⟨b, off + j, none⟩ = some (.string (ss.getD j ByteArray.empty))
  hcap : len ≤ cap
  hmax : cap ≤ maxLen

theorem IsStrs.drewN {w : World} {a : Option Addr} {len cap : Nat} {ss : List ByteArray} (h : IsStrs w a len cap ss) (n : Nat) : IsStrs (w.drewN n) a len cap ss := ⟨h.hlen, h.hnil, h.fits, h.cells, h.hcap, h.hmax⟩

theorem IsStrs.fit {w : World} {a : Option Addr} {len cap : Nat} {ss : List ByteArray} (h : IsStrs w a len cap ss) (j : Nat) : (ss.getD j ByteArray.empty).size ≤ maxLen := by
  rcases Nat.lt_or_ge j ss.length with hj | hj
  · rw [List.getD_eq_getElem?_getD, List.getElem?_eq_getElem hj]
    exact h.fits _ (List.getElem_mem hj)
  · rw [List.getD_eq_getElem?_getD, List.getElem?_eq_none hj]
    decide

/-- The strings as cells. -/
def strArr (ss : List ByteArray) : Array Value := (ss.map Value.string).toArray

theorem strArr_at {ss : List ByteArray} {j : Nat} (h : j < ss.length) : (strArr ss)[j]? = some (.string (ss.getD j ByteArray.empty)) := by
  simp [strArr, List.getElem?_map, List.getElem?_eq_getElem h]

/-- Cells that hold all the strings are the strings' cells. -/
theorem strArr_of {ss : List ByteArray} {vs : Array Value} (hs : vs.size = ss.length) (h : ∀ j, j < ss.length → vs[j]? = some (.string (ss.getD j ByteArray.empty))) : vs = strArr ss := by
  apply Array.ext_getElem?
  intro j
  rcases Nat.lt_or_ge j ss.length with hj | hj
  · rw [h j hj, strArr_at hj]
  · rw [Array.getElem?_eq_none (by omega), Array.getElem?_eq_none (by simpa [strArr] using hj)]

end Go.Proofs.Qxb6604668a
