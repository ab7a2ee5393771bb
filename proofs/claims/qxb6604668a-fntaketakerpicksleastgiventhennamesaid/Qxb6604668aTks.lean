/-
  A slice of takers (five cells each) that came in, and the CONTRACTS of the laws' helpers over it: the bound on total length (21), b1CopyTakers (22).
-/
import Derived.Test.Qxb6604668aWorker
import Derived.Test.Qxb6604668aStrs
namespace Go.Proofs.Qxb6604668a
open Go.ChangeShapes Go.WideShapes Go.ChangeAt Go.RowKit

def tkD : ByteArray × Tk := (ByteArray.empty, ⟨ByteArray.empty, 0, 0, 0⟩)
def nameAt (ts : List (ByteArray × Tk)) (j : Nat) : ByteArray := (ts.getD j tkD).1
def tkAt (ts : List (ByteArray × Tk)) (j : Nat) : Tk := (ts.getD j tkD).2

/-- the five cells of a taker, from ⟨b, o⟩ on -/
structure TkCells (w : World) (b o : Nat) (n : ByteArray) (t : Tk) : Prop where
  c0 : w.cell? ⟨b, o, none⟩ = some (.string n)
  c1 : w.cell? ⟨b, o + 1, none⟩ = some (.string t.key)
  c2 : w.cell? ⟨b, o + 2, none⟩ = some (.int .i64 t.rev)
  c3 : w.cell? ⟨b, o + 3, none⟩ = some (.int .i64 t.lease)
  c4 : w.cell? ⟨b, o + 4, none⟩ = some (.int .i64 t.given)

structure IsTks (w : World) (a : Option Addr) (len cap : Nat) (ts : List (ByteArray × Tk)) : Prop where
  hlen : ts.length = len
  hnil : a = none → len = 0 ∧ cap = 0
  fits : ∀ j, (nameAt ts j).size ≤ maxLen ∧ (tkAt ts j).key.size ≤ maxLen
  cells : 0 < len → ∃ b off, a = some ⟨b, off, none⟩ ∧ ∀ j, j < len → TkCells w b (off + j * 5) (nameAt ts j) (tkAt ts j)
  hcap : len ≤ cap
  hmax : cap ≤ maxLen

set_option maxHeartbeats 1000000 in
theorem bytes21 (a : Option Addr) (len cap : Nat) (ts : List (ByteArray × Tk)) (w : World) (hI : IsTks w a len cap ts) :
    Calls Try.prog 21 #[.slice a len cap] w fun e w' => Bools e ∧ w' = w := by
  have hmax := hI.hmax
  have hcap := hI.hcap
  unfold maxLen at hmax
  have HI : Hid (IsTks w a len cap ts) := hI
  clear hI
  go_enter Try.func21, Try.ntmps21
  go_wp2
  · go_ret
    exact ⟨Bools.mk _, rfl⟩
  go_loop [3, 4] (fun z i => ∃ (k : Nat) (t : Int), k ≤ len ∧ i = .int .i64 k ∧ z = .int .i64 t) (fun _ i => len - (intOf i).toNat)
  case atStart => exact ⟨0, _, Nat.zero_le _, rfl, rfl⟩
  case round =>
    obtain ⟨k, t, hk, rfl, rfl⟩ := hrel
    by_cases hlt : k < len
    · obtain ⟨b, off, rfl, hc⟩ := HI.out.cells (by omega)
      obtain ⟨c0, c1, _, _, _⟩ := hc k hlt
      obtain ⟨f0, f1⟩ := HI.out.fits k
      unfold maxLen at f0 f1
      clear hc
      generalize nameAt ts k = nk at c0 f0
      generalize (tkAt ts k).key = kk at c1 f1
      go_wp2
      iterate 4
        · go_ret
          exact ⟨Bools.mk _, rfl⟩
      go_round
      case rel => exact ⟨k + 1, _, by omega, by go_num, rfl⟩
      case measure => simp [intOf]; omega
    · go_wp2
      go_ret
      exact ⟨Bools.mk _, rfl⟩

theorem info42 : (Try.prog.info? 42).map (fun i => (i.zero, i.size, i.bytes)) = some (some (.agg #[.string ByteArray.empty, .string ByteArray.empty, .int .i64 0, .int .i64 0, .int .i64 0]), 5, 56) := by kernel_rfl

/-- 'make([]T, n)' at the operation, T of whatever many cells: the new block's size is known. -/
theorem wpList_make_any {P : Program} (w : World) {ops : Array Oper} {rest : List Oper} {o : Oper} {a : Act} {Q : Exit → Act → World → Prop}
    (hg : o.guard = none) (l c : Operand) (t : TypeId) (hop : o.op = Op.makeSlice t l c) (e : TypeId) (z : Value) (sz byt : Nat) (h1 : P.underlying t = some (.slice e)) (h2 : (P.info? e).map (fun i => (i.zero, i.size, i.bytes)) = some (some z, sz, byt))
    (n : Nat) (hl : a.eval l = .int .i64 n) (hc : a.eval c = .int .i64 n) (b2 : byt * n ≤ 281474976710656) (b3 : n ≤ maxLen)
    (hK : ∀ vs : Array Value, vs.size = n * sz → wpList P ops Q rest (a.put o.dst (.slice (some ⟨w.heap.size, 0, none⟩) n n)) (w.alloc (.cells vs e))) : wpList P ops Q (o :: rest) a w := by
  obtain ⟨i, hi, hz0, hz1, hz2⟩ := info_parts h2
  refine wpList_plain hg fun K hK' => ?_
  have hrun := run_make (P := P) w t e i z h1 hi hz0 .i64 .i64 (n : Int) (n : Int) (by omega) (by omega) (by rw [hz2]; omega) (by unfold maxLen at b3; omega)
  rw [hz1, Int.toNat_natCast] at hrun
  unfold Oper.wp
  simp [execOp, hop, hl, hc, hrun, Result.andThen]
  exact hK' _ _ (hK _ (size_madeCells _ _))

/-- the five cells of a taker in a block's cells -/
structure TkIn (vs : Array Value) (o : Nat) (n : ByteArray) (t : Tk) : Prop where
  c0 : vs[o]? = some (.string n)
  c1 : vs[o + 1]? = some (.string t.key)
  c2 : vs[o + 2]? = some (.int .i64 t.rev)
  c3 : vs[o + 3]? = some (.int .i64 t.lease)
  c4 : vs[o + 4]? = some (.int .i64 t.given)

/-- the five stores -/
def five (vs : Array Value) (o : Nat) (n : ByteArray) (t : Tk) : Array Value :=
  ((((vs.setIfInBounds o (.string n)).setIfInBounds (o + 1) (.string t.key)).setIfInBounds (o + 2) (.int .i64 t.rev)).setIfInBounds (o + 3) (.int .i64 t.lease)).setIfInBounds (o + 4) (.int .i64 t.given)

theorem five_size (vs : Array Value) (o : Nat) (n : ByteArray) (t : Tk) : (five vs o n t).size = vs.size := by simp [five]

theorem five_other {vs : Array Value} {o i : Nat} (n : ByteArray) (t : Tk) (h : i < o ∨ o + 5 ≤ i) : (five vs o n t)[i]? = vs[i]? := by
  unfold five
  rw [Array.getElem?_setIfInBounds_ne (by omega), Array.getElem?_setIfInBounds_ne (by omega), Array.getElem?_setIfInBounds_ne (by omega), Array.getElem?_setIfInBounds_ne (by omega), Array.getElem?_setIfInBounds_ne (by omega)]

theorem five_here {vs : Array Value} {o : Nat} (n : ByteArray) (t : Tk) (h : o + 5 ≤ vs.size) : TkIn (five vs o n t) o n t := by
  unfold five
  refine ⟨?_, ?_, ?_, ?_, ?_⟩
  · rw [Array.getElem?_setIfInBounds_ne (by omega), Array.getElem?_setIfInBounds_ne (by omega), Array.getElem?_setIfInBounds_ne (by omega), Array.getElem?_setIfInBounds_ne (by omega), Array.getElem?_setIfInBounds_self_of_lt (by omega)]
  · rw [Array.getElem?_setIfInBounds_ne (by omega), Array.getElem?_setIfInBounds_ne (by omega), Array.getElem?_setIfInBounds_ne (by omega), Array.getElem?_setIfInBounds_self_of_lt (by simp; omega)]
  · rw [Array.getElem?_setIfInBounds_ne (by omega), Array.getElem?_setIfInBounds_ne (by omega), Array.getElem?_setIfInBounds_self_of_lt (by simp; omega)]
  · rw [Array.getElem?_setIfInBounds_ne (by omega), Array.getElem?_setIfInBounds_self_of_lt (by simp; omega)]
  · rw [Array.getElem?_setIfInBounds_self_of_lt (by simp; omega)]

theorem TkIn.kept {vs : Array Value} {o o' : Nat} {n : ByteArray} {t : Tk} (h : TkIn vs o' n t) (n' : ByteArray) (t' : Tk) (hd : o' + 5 ≤ o) : TkIn (five vs o n' t') o' n t :=
  ⟨(five_other _ _ (by omega)).trans h.c0, (five_other _ _ (by omega)).trans h.c1, (five_other _ _ (by omega)).trans h.c2, (five_other _ _ (by omega)).trans h.c3, (five_other _ _ (by omega)).trans h.c4⟩

theorem TkIn.cells {w : World} {b o : Nat} {vs : Array Value} {tt : TypeId} {n : ByteArray} {t : Tk} (hb : w.heap[b]? = some (.cells vs tt (0, 0))) (h : TkIn vs o n t) : TkCells w b o n t :=
  ⟨(cell_in hb).trans h.c0, (cell_in hb).trans h.c1, (cell_in hb).trans h.c2, (cell_in hb).trans h.c3, (cell_in hb).trans h.c4⟩

/-- what b1CopyTakers leaves -/
def CopiedT (w : World) (len : Nat) (ts : List (ByteArray × Tk)) (e : Ending) (w' : World) : Prop :=
  ∃ a', e = .returned (.slice a' len len) ∧ (0 < len → a' = some ⟨w.heap.size, 0, none⟩ ∧ ∃ vs, w'.heap[w.heap.size]? = some (.cells vs 42 (0, 0)) ∧ ∀ j, j < len → TkIn vs (j * 5) (nameAt ts j) (tkAt ts j)) ∧ Below w.heap.size w w'

set_option maxHeartbeats 1000000 in
theorem copyTakers (a : Option Addr) (len cap : Nat) (ts : List (ByteArray × Tk)) (w : World) (hI : IsTks w a len cap ts) (h4 : len ≤ 4096) :
    Calls Try.prog 22 #[.slice a len cap] w (CopiedT w len ts) := by
  have hmax := hI.hmax
  have hcap := hI.hcap
  unfold maxLen at hmax
  have HI : Hid (IsTks w a len cap ts) := hI
  clear hI
  have hsn := fun (a : Option Addr) (n c : Nat) (w : World) => Lib.run_eql_slice_nil (P := Try.prog) w 39 42 a n c 0 0 Try.underlying39
  cases a with
  | none =>
    obtain ⟨rfl, rfl⟩ := HI.out.hnil rfl
    go_enter Try.func22, Try.ntmps22
    go_wp2
    go_ret
    exact ⟨none, rfl, fun h => absurd h (Nat.lt_irrefl _), Below.refl _ _⟩
  | some x =>
    go_enter Try.func22, Try.ntmps22
    go_wp2_with (at_make; refine wpList_make_any _ rfl _ _ 39 rfl 42 _ 5 56 Try.underlying39 info42 len rfl rfl (by omega) (by unfold maxLen; omega) ?_; intro vs0 hvs0)
    have HV0 : Hid (vs0.size = len * 5) := hvs0
    clear hvs0
    go_loopw [4] (fun i wr => ∃ (k : Nat) (vs : Array Value), k ≤ len ∧ i = .int .i64 k ∧ wr.heap[w.heap.size]? = some (.cells vs 42 (0, 0)) ∧ vs.size = len * 5 ∧ (∀ j, j < k → TkIn vs (j * 5) (nameAt ts j) (tkAt ts j)) ∧ Below w.heap.size w wr) (fun i _ => len - (intOf i).toNat)
    case atStart => exact ⟨0, _, Nat.zero_le _, rfl, heap_alloc_new _ _, HV0.out, fun j hj => absurd hj (Nat.not_lt_zero _), (Below.refl _ _).alloc (Nat.le_refl _) _⟩
    case round =>
      obtain ⟨k, vs, hk, rfl, hb, hsz, hvs, hbel⟩ := hrel
      by_cases hlt : k < len
      · obtain ⟨b, off, hx, hc⟩ := HI.out.cells (by omega)
        cases hx
        obtain ⟨c0, c1, c2, c3, c4⟩ := hc k hlt
        have hbl : b < w.heap.size := World.block_lt_of_cell? w _ c0
        have e0 := (hbel.cell (p := ⟨b, off + k * 5, none⟩) hbl).trans c0
        have e1 := (hbel.cell (p := ⟨b, off + k * 5 + 1, none⟩) hbl).trans c1
        have e2 := (hbel.cell (p := ⟨b, off + k * 5 + 2, none⟩) hbl).trans c2
        have e3 := (hbel.cell (p := ⟨b, off + k * 5 + 3, none⟩) hbl).trans c3
        have e4 := (hbel.cell (p := ⟨b, off + k * 5 + 4, none⟩) hbl).trans c4
        obtain ⟨v0, d0⟩ := cell_some (i := k * 5) hb (by omega)
        obtain ⟨v1, d1⟩ := cell_some (i := k * 5 + 1) hb (by omega)
        obtain ⟨v2, d2⟩ := cell_some (i := k * 5 + 2) hb (by omega)
        obtain ⟨v3, d3⟩ := cell_some (i := k * 5 + 3) hb (by omega)
        obtain ⟨v4, d4⟩ := cell_some (i := k * 5 + 4) hb (by omega)
        have z0 := free_in (i := k * 5) hb
        have z1 := free_in (i := k * 5 + 1) hb
        have z2 := free_in (i := k * 5 + 2) hb
        have z3 := free_in (i := k * 5 + 3) hb
        have z4 := free_in (i := k * 5 + 4) hb
        have HB : Hid (wr.heap[w.heap.size]? = some (.cells vs 42 (0, 0))) := hb
        have HV : Hid (∀ j, j < k → TkIn vs (j * 5) (nameAt ts j) (tkAt ts j)) := hvs
        have HZ : Hid (vs.size = len * 5) := hsz
        clear hc hb hvs hsz c0 c1 c2 c3 c4
        go_wp2
        go_roundw
        case rel =>
          refine ⟨k + 1, five vs (k * 5) (nameAt ts k) (tkAt ts k), by omega, by go_num, ?_, by rw [five_size]; exact HZ.out, fun j hj => ?_, ?_⟩
          · exact block_setCell (block_setCell (block_setCell (block_setCell (block_setCell HB.out _) _) _) _) _
          · rcases Nat.lt_or_ge j k with h | h
            · exact (HV.out j h).kept _ _ (by omega)
            · obtain rfl : j = k := by omega
              exact five_here _ _ (by have := HZ.out; omega)
          · exact ((((hbel.setCell (Nat.le_refl _) _).setCell (Nat.le_refl _) _).setCell (Nat.le_refl _) _).setCell (Nat.le_refl _) _).setCell (Nat.le_refl _) _
        case measure => simp [intOf]; omega
      · obtain rfl : k = len := by omega
        have HB : Hid (wr.heap[w.heap.size]? = some (.cells vs 42 (0, 0))) := hb
        have HV : Hid (∀ j, j < k → TkIn vs (j * 5) (nameAt ts j) (tkAt ts j)) := hvs
        clear hb hvs hsz
        go_wp2
        go_ret
        exact ⟨_, rfl, fun _ => ⟨rfl, vs, HB.out, HV.out⟩, hbel⟩
end Go.Proofs.Qxb6604668a
