/-
  Memory, over any program: 'make' of one-cell elements as an exact world; 'x[l:h:m]' at the operation; a store into a block that is written out.
-/
import Derived.WalkKit
import Derived.OwnWalk
import Derived.Deep.Draws
import Derived.Laws.OwnMore
import Derived.WalkLawsBesides
namespace Go.Proofs.Qxb6602636a
open Go.RowKit

theorem madeCells_one (z : Value) (n : Nat) : madeCells #[z] n = (List.replicate n z).toArray := by
  apply Array.toList_inj.1
  rw [toList_madeCells_one]

/-- 'make([]T, n)' at the operation, T of one cell: the world is known. -/
theorem wpList_make_rep {P : Program} (w : World) {ops : Array Oper} {rest : List Oper} {o : Oper} {a : Act} {Q : Exit → Act → World → Prop}
    (hg : o.guard = none) (l c : Operand) (t : TypeId) (hop : o.op = Op.makeSlice t l c) (e : TypeId) (z : Value) (by8 : Nat) (h1 : P.underlying t = some (.slice e)) (h2 : (P.info? e).map (fun i => (i.zero, i.size, i.bytes)) = some (some z, 1, by8)) (hz : z.cells = #[z])
    (n : Nat) (L C : Int) (hl : a.eval l = .int .i64 L) (hc : a.eval c = .int .i64 C) (eL : L = (n : Int)) (eC : C = (n : Int)) (b2 : by8 * n ≤ 281474976710656) (b3 : n ≤ maxLen)
    (hK : wpList P ops Q rest (a.put o.dst (.slice (some ⟨w.heap.size, 0, none⟩) n n)) (w.alloc (.cells (List.replicate n z).toArray e))) : wpList P ops Q (o :: rest) a w := by
  subst eL eC
  obtain ⟨i, hi, hz0, hz1, hz2⟩ := info_parts h2
  refine wpList_plain hg fun K hK' => ?_
  have hrun := run_make (P := P) w t e i z h1 hi hz0 .i64 .i64 (n : Int) (n : Int) (by omega) (by omega) (by rw [hz2]; omega) (by unfold maxLen at b3; omega)
  rw [hz1, hz, Nat.mul_one, Int.toNat_natCast, madeCells_one] at hrun
  unfold Oper.wp
  simp [execOp, hop, hl, hc, hrun, Result.andThen]
  exact hK' _ _ (by simpa using hK)

/-- 'x[l:h:m]' at the operation. -/
theorem wpList_slice3 {P : Program} (w : World) {ops : Array Oper} {rest : List Oper} {o : Oper} {a : Act} {Q : Exit → Act → World → Prop}
    (hg : o.guard = none) (x lo hi mx : Operand) (t : TypeId) (hop : o.op = Op.slice t x (some lo) (some hi) (some mx)) (ht : P.underlying t = some (.slice (P.elem t))) (hs : (sizeOf (P.elem t)).run P w = .ok 1 w)
    (a0 : Option Addr) (len cap : Nat) (hx : a.eval x = .slice a0 len cap) (l h m : Nat) (L H M : Int) (hl : a.eval lo = .int .i64 L) (hh : a.eval hi = .int .i64 H) (hm : a.eval mx = .int .i64 M) (eL : L = (l : Int)) (eH : H = (h : Int)) (eM : M = (m : Int))
    (b1 : l ≤ h) (b2 : h ≤ m) (b3 : m ≤ cap) (v : Value) (hv : sliced a0 l h m 1 = v) (hK : wpList P ops Q rest (a.put o.dst v) w) : wpList P ops Q (o :: rest) a w := by
  subst eL eH eM hv
  refine wpList_plain hg fun K hK' => ?_
  have hrun := run_slice_lhm (P := P) w t a0 len cap ht .i64 .i64 .i64 (l : Int) (h : Int) (m : Int) (by omega) (by omega) (by omega) (by omega)
  rw [hs] at hrun
  simp only [Result.andThen, Int.toNat_natCast] at hrun
  unfold Oper.wp
  simp [execOp, hop, hx, hl, hh, hm, run_sliceAt_slice w t _ _ _ _ ht, hrun, Result.andThen]
  exact hK' _ _ hK

theorem cell_in {w : World} {b i : Nat} {vs : Array Value} {t : TypeId} (h : w.heap[b]? = some (.cells vs t (0, 0))) : w.cell? ⟨b, i, none⟩ = vs[i]? := by simp [World.cell?, h]
theorem free_in {w : World} {b i : Nat} {vs : Array Value} {t : TypeId} (h : w.heap[b]? = some (.cells vs t (0, 0))) : w.frozen? ⟨b, i, none⟩ = false := by simp [World.frozen?, h]
theorem cell_some {w : World} {b i : Nat} {vs : Array Value} {t : TypeId} (h : w.heap[b]? = some (.cells vs t (0, 0))) (hi : i < vs.size) : ∃ v, w.cell? ⟨b, i, none⟩ = some v :=
  ⟨vs[i], by rw [cell_in h]; exact Array.getElem?_eq_getElem hi⟩

/-- A store into a block that is written out. -/
theorem block_setCell {w : World} {b i : Nat} {vs : Array Value} {t : TypeId} (h : w.heap[b]? = some (.cells vs t (0, 0))) (u : Value) : (w.setCell ⟨b, i, none⟩ u).heap[b]? = some (.cells (vs.setIfInBounds i u) t (0, 0)) := by
  have hlt := lt_of_block h
  have h' : w.heap[b] = .cells vs t (0, 0) := by simpa [Array.getElem?_eq_getElem hlt] using h
  show (w.heap.modify b _)[b]? = _
  rw [Array.getElem?_eq_getElem (by simpa using hlt), Array.getElem_modify_self, h']
  rfl

/-- A block of bytes, as a function of the place. -/
def Bytes (w : World) (b n : Nat) (f : Nat → Int) : Prop := ∃ vs, w.heap[b]? = some (.cells vs 5 (0, 0)) ∧ vs.size = n ∧ ∀ i, i < n → vs[i]? = some (.int .u8 (f i))

theorem Bytes.cell {w : World} {b n : Nat} {f : Nat → Int} (h : Bytes w b n f) {i : Nat} (hi : i < n) : w.cell? ⟨b, i, none⟩ = some (.int .u8 (f i)) := by
  obtain ⟨vs, h1, _, h3⟩ := h
  rw [cell_in h1, h3 i hi]
theorem Bytes.free {w : World} {b n : Nat} {f : Nat → Int} (h : Bytes w b n f) (i : Nat) : w.frozen? ⟨b, i, none⟩ = false := by
  obtain ⟨vs, h1, _, _⟩ := h
  exact free_in h1
theorem Bytes.lt {w : World} {b n : Nat} {f : Nat → Int} (h : Bytes w b n f) : b < w.heap.size := by
  obtain ⟨vs, h1, _, _⟩ := h
  exact lt_of_block h1
theorem Bytes.ext {w : World} {b n : Nat} {f g : Nat → Int} (h : Bytes w b n f) (hfg : ∀ i, i < n → f i = g i) : Bytes w b n g := by
  obtain ⟨vs, h1, h2, h3⟩ := h
  exact ⟨vs, h1, h2, fun i hi => by rw [← hfg i hi]; exact h3 i hi⟩
/-- one byte stored -/
theorem Bytes.store {w : World} {b n : Nat} {f : Nat → Int} (h : Bytes w b n f) {k : Nat} (hk : k < n) (u : Int) : Bytes (w.setCell ⟨b, k, none⟩ (.int .u8 u)) b n (fun i => if i = k then u else f i) := by
  obtain ⟨vs, h1, h2, h3⟩ := h
  refine ⟨_, block_setCell h1 _, by simpa using h2, fun i hi => ?_⟩
  by_cases e : i = k
  · subst e
    rw [Array.getElem?_setIfInBounds_self_of_lt (by omega)]
    simp
  · rw [Array.getElem?_setIfInBounds_ne (fun e2 => e e2.symm), h3 i hi]
    simp [e]
theorem Bytes.other {w : World} {b n : Nat} {f : Nat → Int} (h : Bytes w b n f) {p : Addr} (hne : b ≠ p.block) (u : Value) : Bytes (w.setCell p u) b n f := by
  obtain ⟨vs, h1, h2⟩ := h
  exact ⟨vs, (Below.heap_setCell _ _ _ _ hne).trans h1, h2⟩
theorem Bytes.later {w w' : World} {b n : Nat} {f : Nat → Int} (h : Bytes w b n f) (hb : Below w.heap.size w w') : Bytes w' b n f := by
  obtain ⟨vs, h1, h2⟩ := h
  exact ⟨vs, (hb.block _ (lt_of_block h1)).trans h1, h2⟩
theorem Bytes.grown {w w' : World} {b n : Nat} {f : Nat → Int} (h : Bytes w b n f) {row : Option Nat} (hg : w.grownBy w' row) (hne : some b ≠ row) : Bytes w' b n f := by
  obtain ⟨vs, h1, h2⟩ := h
  exact ⟨vs, (hg.block _ (lt_of_block h1) hne).trans h1, h2⟩
theorem Bytes.drewN {w : World} {b n : Nat} {f : Nat → Int} (h : Bytes w b n f) (m : Nat) : Bytes (w.drewN m) b n f := h

end Go.Proofs.Qxb6602636a
