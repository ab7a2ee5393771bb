/-
  A slice of bytes that came in; THE CONTRACTS of cloneBytesFountainB1 (10) and of the bounds on total length (9, 13).
-/
import Derived.Test.Qxb6602636aRows
import Derived.Test.Qxb6602636aMem
import Derived.WalkKit
import Derived.ProofKit
import Derived.Laws.CopyOwn
import Derived.Lib.SliceRun
namespace Go.Proofs.Qxb6602636a
open Go.ChangeShapes Go.WideShapes Go.ChangeAt Go.RowKit

theorem info5c : (Try.prog.info? 5).map (fun i => (i.zero, i.size, i.bytes)) = some (some (.int .u8 0), 1, 1) := by kernel_rfl
theorem info5s : (Try.prog.info? 5).map (·.size) = some 1 := by kernel_rfl

/-- a slice of bytes that came in: its elements are z 0, z 1 .. -/
structure IsB (w : World) (a : Option Addr) (len cap : Nat) (z : Nat → Int) : Prop where
  hnil : a = none → len = 0 ∧ cap = 0
  cells : 0 < len → ∃ b off, a = some ⟨b, off, none⟩ ∧ ∀ j, j < len → w.cell? ⟨b, off + j, none⟩ = some (.int .u8 (z j))
  hcap : len ≤ cap
  hmax : cap ≤ maxLen

theorem IsB.below {w w' : World} {a : Option Addr} {len cap : Nat} {z : Nat → Int} (h : IsB w a len cap z) {B : Nat} (hb : Below B w w') (hB : w.heap.size ≤ B) : IsB w' a len cap z :=
  ⟨h.hnil, fun hl => by
    obtain ⟨b, off, e, hc⟩ := h.cells hl
    refine ⟨b, off, e, fun j hj => ?_⟩
    have hbl : b < w.heap.size := World.block_lt_of_cell? w _ (hc j hj)
    exact (hb.cell (p := ⟨b, off + j, none⟩) (Nat.lt_of_lt_of_le hbl hB)).trans (hc j hj), h.hcap, h.hmax⟩

/-- what cloneBytesFountainB1 leaves -/
def Cloned (w : World) (len : Nat) (z : Nat → Int) (e : Ending) (w' : World) : Prop :=
  ∃ a', e = .returned (.slice a' len len) ∧ (a' = none → len = 0) ∧ (a' ≠ none → a' = some ⟨w.heap.size, 0, none⟩) ∧ (0 < len → Bytes w' w.heap.size len z) ∧ Below w.heap.size w w'

/-- the bytes as cells -/
def byteCells (len : Nat) (z : Nat → Int) : List Value := (List.range len).map fun i => .int .u8 (z i)

theorem byteCells_at {len : Nat} {z : Nat → Int} {j : Nat} (h : j < len) : (byteCells len z)[j]? = some (.int .u8 (z j)) := by
  simp [byteCells, List.getElem?_range h]

set_option maxHeartbeats 1000000 in
theorem clone (a : Option Addr) (len cap : Nat) (z : Nat → Int) (w : World) (hI : IsB w a len cap z) (hl : len ≤ 1048576) : Calls Try.prog 10 #[.slice a len cap] w (Cloned w len z) := by
  have hsn := fun (a : Option Addr) (n c : Nat) (w : World) => Lib.run_eql_slice_nil (P := Try.prog) w 24 5 a n c 0 0 Try.underlying24
  have HI : Hid (IsB w a len cap z) := hI
  have hcap := hI.hcap
  have hmax := hI.hmax
  unfold maxLen at hmax
  clear hI
  cases a with
  | none =>
    obtain ⟨rfl, rfl⟩ := HI.out.hnil rfl
    go_enter Try.func10, Try.ntmps10
    go_wp2
    go_ret
    exact ⟨none, rfl, fun _ => rfl, fun h => absurd rfl h, fun h => absurd h (Nat.lt_irrefl _), Below.refl _ _⟩
  | some x =>
    have hcs : (byteCells len z).length = len := by simp [byteCells]
    have hpos : 0 < (byteCells len z).length → (some ⟨w.heap.size, 0, none⟩ : Option Addr) = some ⟨w.heap.size, 0, none⟩ ∧ ∃ ad, some x = some ad ∧ ∀ j v, (byteCells len z)[j]? = some v → (w.alloc (.cells (Array.replicate len (.int .u8 0)) 5)).cell? (ad.add j) = some v := fun h => by
      rw [hcs] at h
      refine ⟨rfl, x, rfl, fun j v hv => ?_⟩
      obtain ⟨b, off, e, hc⟩ := HI.out.cells h
      cases e
      have hj : j < len := by
        have := (List.getElem?_eq_some_iff.1 hv).1
        omega
      rw [byteCells_at hj] at hv
      cases hv
      have hbl : b < w.heap.size := World.block_lt_of_cell? w _ (hc j hj)
      rw [Go.WideShapes.add_plain]
      exact (World.cell?_alloc_past _ _ _ hbl).trans (hc j hj)
    have HP : Hid (0 < (byteCells len z).length → (some ⟨w.heap.size, 0, none⟩ : Option Addr) = some ⟨w.heap.size, 0, none⟩ ∧ ∃ ad, some x = some ad ∧ ∀ j v, (byteCells len z)[j]? = some v → (w.alloc (.cells (Array.replicate len (.int .u8 0)) 5)).cell? (ad.add j) = some v) := hpos
    have HCS : Hid ((byteCells len z).length = len) := hcs
    have HH : Hid ((w.alloc (.cells (Array.replicate len (.int .u8 0)) 5)).heap[w.heap.size]? = some (.cells (List.replicate len (.int .u8 0)).toArray 5 (0, 0))) := show (w.alloc (.cells (Array.replicate len (.int .u8 0)) 5)).heap[w.heap.size]? = _ by rw [heap_alloc_new]; simp
    have HO : Hid (∀ v ∈ byteCells len z, v.oneCell' = true) := fun v hv => by
      obtain ⟨i, _, rfl⟩ := List.mem_map.1 hv
      rfl
    clear hpos hcs
    go_enter Try.func10, Try.ntmps10
    go_wp2_with (first
      | (at_make; refine wpList_make_rep _ rfl _ _ 24 rfl 5 _ 1 Try.underlying24 info5c rfl len _ _ rfl rfl rfl rfl (by omega) (by unfold maxLen; omega) ?_)
      | (refine wpList_copy_splice rfl _ _ 24 24 rfl 5 Try.underlying24 info5s (some ⟨w.heap.size, 0, none⟩) (some x) len len len cap rfl rfl w.heap.size 0 (List.replicate len (.int .u8 0)) 5 HH.out (byteCells len z) (by rw [HCS.out]; exact (Nat.min_self _).symm) HP.out (by rw [HCS.out]; simp) HO.out w.heap.size w ((Below.refl _ _).alloc (Nat.le_refl _) _) (Nat.le_refl _) ?_; intro w2 h2 b2))
    go_ret
    refine ⟨_, rfl, (fun h => by cases h), fun _ => rfl, fun _ => ⟨(splice (List.replicate len (.int .u8 0)) 0 (byteCells len z)).toArray, h2.out, ?_, fun i hi => ?_⟩, b2⟩
    · simp [splice, HCS.out]
    · simp only [splice, List.take_zero, List.nil_append]
      rw [List.getElem?_toArray, List.getElem?_append_left (by rw [HCS.out]; exact hi), byteCells_at hi]

/-- it returns a bool -/
def Bools (e : Ending) : Prop := ∃ bb : Bool, e = .returned (.bool bb)
theorem Bools.mk (bb : Bool) : Bools (.returned (.bool bb)) := ⟨bb, rfl⟩

theorem bytes13 (t r : Int) (a2 a3 : Option Addr) (l2 c2 l3 c3 : Nat) (w : World) (h2 : l2 ≤ maxLen) (h3 : l3 ≤ maxLen) :
    Calls Try.prog 13 #[.int .i64 t, .int .i64 r, .slice a2 l2 c2, .slice a3 l3 c3] w fun e w' => Bools e ∧ w' = w := by
  unfold maxLen at h2 h3
  go_enter Try.func13, Try.ntmps13
  go_wp2
  all_goals
    go_ret
    exact ⟨Bools.mk _, rfl⟩

theorem bytes9 (t r : Int) (a2 a3 : Option Addr) (l2 c2 l3 c3 : Nat) (q : Int) (w : World) (h2 : l2 ≤ maxLen) (h3 : l3 ≤ maxLen) :
    Calls Try.prog 9 #[.int .i64 t, .int .i64 r, .slice a2 l2 c2, .slice a3 l3 c3, .int .i32 q] w fun e w' => Bools e ∧ w' = w := by
  unfold maxLen at h2 h3
  go_enter Try.func9, Try.ntmps9
  go_wp2
  all_goals
    go_ret
    exact ⟨Bools.mk _, rfl⟩
end Go.Proofs.Qxb6602636a
