/-
  THE CONTRACTS of symbolCells (14) and ZZSymbolCells (7).
-/
import Derived.Test.Qxb6602636aRows
import Derived.Test.Qxb6602636aMem
import Derived.WalkKit
import Derived.ProofKit
namespace Go.Proofs.Qxb6602636a
open Go.ChangeShapes Go.WideShapes Go.ChangeAt Go.RowKit

theorem info5 : (Try.prog.info? 5).map (fun i => (i.zero, i.size, i.bytes)) = some (some (.int .u8 0), 1, 1) := by kernel_rfl
theorem info24 : (Try.prog.info? 24).map (fun i => (i.zero, i.size, i.bytes)) = some (some (.slice none 0 0), 1, 24) := by kernel_rfl
theorem elem24 : Try.prog.underlying 24 = some (.slice (Try.prog.elem 24)) := Try.underlying24
theorem size24 (w : World) : (sizeOf (Try.prog.elem 24)).run Try.prog w = .ok 1 w := by kernel_rfl

/-- the first k cells, in block Bc, are windows of t bytes of the room in block Br -/
def Cells (w : World) (Bc Br h t k : Nat) : Prop := ∃ cs, w.heap[Bc]? = some (.cells cs 24 (0, 0)) ∧ cs.size = h ∧ ∀ j, j < k → cs[j]? = some (.slice (some ⟨Br, j * t, none⟩) t t)

theorem Cells.cell {w : World} {Bc Br h t k : Nat} (hc : Cells w Bc Br h t k) {j : Nat} (hj : j < k) : w.cell? ⟨Bc, j, none⟩ = some (.slice (some ⟨Br, j * t, none⟩) t t) := by
  obtain ⟨cs, h1, _, h3⟩ := hc
  rw [cell_in h1, h3 j hj]
theorem Cells.later {w w' : World} {Bc Br h t k : Nat} (hc : Cells w Bc Br h t k) (hb : Below w.heap.size w w') : Cells w' Bc Br h t k := by
  obtain ⟨cs, h1, h2⟩ := hc
  exact ⟨cs, (hb.block _ (lt_of_block h1)).trans h1, h2⟩
theorem Cells.other {w : World} {Bc Br h t k : Nat} (hc : Cells w Bc Br h t k) {p : Addr} (hne : Bc ≠ p.block) (u : Value) : Cells (w.setCell p u) Bc Br h t k := by
  obtain ⟨cs, h1, h2⟩ := hc
  exact ⟨cs, (Below.heap_setCell _ _ _ _ hne).trans h1, h2⟩
theorem Cells.grown {w w' : World} {Bc Br h t k : Nat} (hc : Cells w Bc Br h t k) {row : Option Nat} (hg : w.grownBy w' row) (hne : some Bc ≠ row) : Cells w' Bc Br h t k := by
  obtain ⟨cs, h1, h2⟩ := hc
  exact ⟨cs, (hg.block _ (lt_of_block h1) hne).trans h1, h2⟩

/-- what symbolCells leaves -/
def Made (w : World) (h t : Nat) (e : Ending) (w' : World) : Prop :=
  e = .returned (.slice (some ⟨w.heap.size + 1, 0, none⟩) h h) ∧ Cells w' (w.heap.size + 1) w.heap.size h t h ∧ Bytes w' w.heap.size (h * t) (fun _ => 0) ∧ Below w.heap.size w w'

theorem sliced_room (Br l t : Nat) (hl : t = 0 → l = 0) : sliced (some ⟨Br, 0, none⟩) l (l + t) (l + t) 1 = .slice (some ⟨Br, l, none⟩) t t := by
  unfold sliced
  by_cases h : t = 0
  · subst h
    simp [hl rfl]
  · rw [if_neg (by omega)]
    rcases Nat.eq_zero_or_pos l with h0 | h0
    · subst h0
      simp [Addr.add]
    · have : l ≠ 0 := by omega
      simp [Addr.add, this]

set_option maxHeartbeats 1000000 in
theorem symbolCells (h t : Nat) (w : World) (h1 : h ≤ 65536) (h2 : t ≤ 1048576) (h3 : h * t ≤ 1048576) :
    Calls Try.prog 14 #[.int .i64 h, .int .i64 t] w (Made w h t) := by
  obtain ⟨N, hN⟩ : ∃ N, N = h * t := ⟨_, rfl⟩
  have eN : (h : Int) * (t : Int) = (N : Int) := by rw [hN]; exact (Int.natCast_mul h t).symm
  have hNle : N ≤ 1048576 := by omega
  have HN : Hid (N = h * t) := hN
  clear hN h3
  go_enter Try.func14, Try.ntmps14
  go_wp2_with (first
    | (at_make; refine wpList_make_rep _ rfl _ _ 24 rfl 5 _ 1 Try.underlying24 info5 rfl N _ _ rfl rfl rfl rfl (by omega) (by unfold maxLen; omega) ?_)
    | (at_make; refine wpList_make_rep _ rfl _ _ 22 rfl 24 _ 24 Try.underlying22 info24 rfl h _ _ rfl rfl rfl rfl (by omega) (by unfold maxLen; omega) ?_))
  go_loopw [16] (fun i wr => ∃ k : Nat, k ≤ h ∧ i = .int .i64 k ∧ Cells wr (w.heap.size + 1) w.heap.size h t k ∧ Bytes wr w.heap.size N (fun _ => 0) ∧ Below w.heap.size w wr) (fun i _ => h - (intOf i).toNat)
  case atStart =>
    refine ⟨0, Nat.zero_le _, rfl, ⟨Array.replicate h (.slice none 0 0), ?_, by simp, fun j hj => absurd hj (Nat.not_lt_zero _)⟩, ⟨Array.replicate N (.int .u8 0), ?_, by simp, fun i hi => by simp [hi]⟩, ((Below.refl _ _).alloc (Nat.le_refl _) _).alloc (by simp) _⟩
    · have e1 : (w.alloc (.cells (Array.replicate N (.int .u8 0)) 5)).heap.size = w.heap.size + 1 := by simp
      rw [← e1]
      exact heap_alloc_new _ _
    · rw [Below.heap_alloc _ _ _ (by simp)]
      exact heap_alloc_new _ _
  case round =>
    obtain ⟨k, hk, rfl, hc, hby, hb⟩ := hrel
    by_cases hlt : k < h
    · obtain ⟨L, hL⟩ : ∃ L, L = k * t := ⟨_, rfl⟩
      have eL : (k : Int) * (t : Int) = (L : Int) := by rw [hL]; exact (Int.natCast_mul k t).symm
      have eU : ((k : Int) + 1) * (t : Int) = ((L + t : Nat) : Int) := by rw [Int.add_mul, eL]; simp
      obtain ⟨U, hU⟩ : ∃ U, U = L + t := ⟨_, rfl⟩
      rw [← hU] at eU
      have hUN : U ≤ N := by
        rw [hU, hL, HN.out]
        have := Nat.mul_le_mul_right t (show k + 1 ≤ h from hlt)
        rw [Nat.succ_mul] at this
        exact this
      have hLU : L ≤ U := by omega
      obtain ⟨vk, hcv⟩ : ∃ v, wr.cell? ⟨w.heap.size + 1, k, none⟩ = some v := by
        obtain ⟨cs, h1, h2, _⟩ := hc
        exact cell_some h1 (by omega)
      have hfr : wr.frozen? ⟨w.heap.size + 1, k, none⟩ = false := by
        obtain ⟨cs, h1, h2, _⟩ := hc
        exact free_in h1
      have HC : Hid (Cells wr (w.heap.size + 1) w.heap.size h t k) := hc
      have HB : Hid (Bytes wr w.heap.size N (fun _ => 0)) := hby
      have HL : Hid (L = k * t) := hL
      have HU : Hid (U = L + t) := hU
      clear hc hby hL hU
      go_wp2_with (refine wpList_slice3 _ rfl _ _ _ _ 24 rfl elem24 (size24 _) (some ⟨w.heap.size, 0, none⟩) N N rfl L U U _ _ _ rfl rfl rfl rfl rfl rfl (by have := HU.out; omega) (Nat.le_refl _) hUN (.slice (some ⟨w.heap.size, L, none⟩) t t) (by rw [HU.out]; exact sliced_room _ _ _ (fun h => by rw [HL.out, h, Nat.mul_zero])) ?_)
      go_roundw
      case rel =>
        refine ⟨k + 1, by omega, by go_num, ?_, HB.out.other (by simp) _, hb.setCell (by simp) _⟩
        obtain ⟨cs, h1, h2, h3⟩ := HC.out
        refine ⟨_, block_setCell h1 _, by simpa using h2, fun j hj => ?_⟩
        rcases Nat.lt_or_ge j k with h | h
        · rw [Array.getElem?_setIfInBounds_ne (by omega)]; exact h3 j h
        · obtain rfl : j = k := by omega
          rw [Array.getElem?_setIfInBounds_self_of_lt (by omega), HL.out]
      case measure => simp [intOf]; omega
    · obtain rfl : k = h := by omega
      have HC : Hid (Cells wr (w.heap.size + 1) w.heap.size k t k) := hc
      have HB : Hid (Bytes wr w.heap.size N (fun _ => 0)) := hby
      clear hc hby
      go_wp2
      go_ret
      exact ⟨rfl, HC.out, by rw [← HN.out]; exact HB.out, hb⟩

theorem zzSymbolCells (h t : Nat) (w : World) (h1 : h ≤ 65536) (h2 : t ≤ 1048576) (h3 : h * t ≤ 1048576) :
    Calls Try.prog 7 #[.int .i64 h, .int .i64 t] w (Made w h t) := by
  have H : Hid (Calls Try.prog 14 #[.int .i64 h, .int .i64 t] w (Made w h t)) := symbolCells h t w h1 h2 h3
  clear h3
  go_enter Try.func7, Try.ntmps7
  go_wp2_with fail
  refine H.out.mono ?_
  rintro e w1 ⟨rfl, hm⟩
  go_wp2_with fail
  go_ret
  exact ⟨rfl, hm⟩
end Go.Proofs.Qxb6602636a
