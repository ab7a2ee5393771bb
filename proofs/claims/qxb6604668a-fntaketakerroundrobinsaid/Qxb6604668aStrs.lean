/-
  THE CONTRACTS of the laws' helpers over []string: the bounds on total length (11, 27) and b1CopyStrings (12).
-/
import Derived.Test.Qxb6604668aRows
import Derived.Test.Qxb6604668aMem
import Derived.WalkKit
import Derived.ProofKit
import Derived.WalkLawsBesides
import Derived.Lib.SliceRun
namespace Go.Proofs.Qxb6604668a
open Go.ChangeShapes Go.WideShapes Go.ChangeAt Go.RowKit

theorem info9 : (Try.prog.info? 9).map (fun i => (i.zero, i.size, i.bytes)) = some (some (.string ByteArray.empty), 1, 16) := by kernel_rfl

/-- it returns a bool -/
def Bools (e : Ending) : Prop := ∃ bb : Bool, e = .returned (.bool bb)
theorem Bools.mk (bb : Bool) : Bools (.returned (.bool bb)) := ⟨bb, rfl⟩

theorem bytes11 (l d s : ByteArray) (n : Int) (a : Option Addr) (len cap : Nat) (ss : List ByteArray) (w : World) (hl : l.size ≤ maxLen) (hd : d.size ≤ maxLen) (hs : s.size ≤ maxLen) (hI : IsStrs w a len cap ss) :
    Calls Try.prog 11 #[.string l, .string d, .string s, .int .i64 n, .slice a len cap] w fun e w' => Bools e ∧ w' = w := by
  obtain ⟨hlen, _, hfit, hcells, hcap, hmax⟩ := hI
  unfold maxLen at hl hd hs hmax
  have HL : Hid (ss.length = len) := hlen
  have HF : Hid (∀ s ∈ ss, s.size ≤ maxLen) := hfit
  have HC : Hid (0 < len → ∃ b off, a = some ⟨b, off, none⟩ ∧ ∀ j, j < len → w.cell? ⟨b, off + j, none⟩ = some (.string (ss.getD j ByteArray.empty))) := hcells
  clear hlen hfit hcells
  go_enter Try.func11, Try.ntmps11
  go_wp2
  iterate 7
    · go_ret
      exact ⟨Bools.mk _, rfl⟩
  go_loop [11, 12] (fun z i => ∃ (k : Nat) (t : Int), k ≤ len ∧ i = .int .i64 k ∧ z = .int .i64 t) (fun _ i => len - (intOf i).toNat)
  case atStart => exact ⟨0, _, Nat.zero_le _, rfl, rfl⟩
  case round =>
    obtain ⟨k, t, hk, rfl, rfl⟩ := hrel
    by_cases hlt : k < len
    · obtain ⟨b, off, rfl, hc⟩ := HC.out (by omega)
      have hcell := hc k hlt
      have hfk : (ss.getD k ByteArray.empty).size ≤ 9223372036854775807 := by
        have := HL.out
        rw [List.getD_eq_getElem?_getD, List.getElem?_eq_getElem (by omega)]
        exact HF.out _ (List.getElem_mem _)
      clear hc
      generalize ss.getD k ByteArray.empty = sk at hcell hfk
      go_wp2
      · go_ret
        exact ⟨Bools.mk _, rfl⟩
      · go_ret
        exact ⟨Bools.mk _, rfl⟩
      · go_round
        case rel => exact ⟨k + 1, _, by omega, by go_num, rfl⟩
        case measure => simp [intOf]; omega
    · go_wp2
      go_ret
      exact ⟨Bools.mk _, rfl⟩

theorem bytes27 (n : Int) (a : Option Addr) (len cap : Nat) (ss : List ByteArray) (w : World) (hI : IsStrs w a len cap ss) :
    Calls Try.prog 27 #[.slice a len cap, .int .i64 n] w fun e w' => Bools e ∧ w' = w := by
  obtain ⟨hlen, _, hfit, hcells, hcap, hmax⟩ := hI
  unfold maxLen at hmax
  have HL : Hid (ss.length = len) := hlen
  have HF : Hid (∀ s ∈ ss, s.size ≤ maxLen) := hfit
  have HC : Hid (0 < len → ∃ b off, a = some ⟨b, off, none⟩ ∧ ∀ j, j < len → w.cell? ⟨b, off + j, none⟩ = some (.string (ss.getD j ByteArray.empty))) := hcells
  clear hlen hfit hcells
  go_enter Try.func27, Try.ntmps27
  go_wp2
  · go_ret
    exact ⟨Bools.mk _, rfl⟩
  go_loop [5, 6] (fun z i => ∃ (k : Nat) (t : Int), k ≤ len ∧ i = .int .i64 k ∧ z = .int .i64 t) (fun _ i => len - (intOf i).toNat)
  case atStart => exact ⟨0, _, Nat.zero_le _, rfl, rfl⟩
  case round =>
    obtain ⟨k, t, hk, rfl, rfl⟩ := hrel
    by_cases hlt : k < len
    · obtain ⟨b, off, rfl, hc⟩ := HC.out (by omega)
      have hcell := hc k hlt
      have hfk : (ss.getD k ByteArray.empty).size ≤ 9223372036854775807 := by
        have := HL.out
        rw [List.getD_eq_getElem?_getD, List.getElem?_eq_getElem (by omega)]
        exact HF.out _ (List.getElem_mem _)
      clear hc
      generalize ss.getD k ByteArray.empty = sk at hcell hfk
      go_wp2
      · go_ret
        exact ⟨Bools.mk _, rfl⟩
      · go_ret
        exact ⟨Bools.mk _, rfl⟩
      · go_round
        case rel => exact ⟨k + 1, _, by omega, by go_num, rfl⟩
        case measure => simp [intOf]; omega
    · go_wp2
      go_ret
      exact ⟨Bools.mk _, rfl⟩

/-- what b1CopyStrings leaves -/
def Copied (w : World) (len : Nat) (ss : List ByteArray) (e : Ending) (w' : World) : Prop :=
  ∃ a', e = .returned (.slice a' len len) ∧ (0 < len → a' = some ⟨w.heap.size, 0, none⟩ ∧ w'.heap[w.heap.size]? = some (.cells (strArr ss) 9 (0, 0))) ∧ Below w.heap.size w w'

theorem copyStrings (a : Option Addr) (len cap : Nat) (ss : List ByteArray) (w : World) (hI : IsStrs w a len cap ss) (h4 : len ≤ 4096) :
    Calls Try.prog 12 #[.slice a len cap] w (Copied w len ss) := by
  obtain ⟨hlen, hnil, hfit, hcells, hcap, hmax⟩ := hI
  unfold maxLen at hmax
  have hsn := fun (a : Option Addr) (n c : Nat) (w : World) => Lib.run_eql_slice_nil (P := Try.prog) w 25 9 a n c 0 0 Try.underlying25
  cases a with
  | none =>
    obtain ⟨rfl, rfl⟩ := hnil rfl
    clear hcells hfit
    go_enter Try.func12, Try.ntmps12
    go_wp2
    go_ret
    exact ⟨none, rfl, fun h => absurd h (Nat.lt_irrefl _), Below.refl _ _⟩
  | some x =>
    have HL : Hid (ss.length = len) := hlen
    have HC : Hid (0 < len → ∃ b off, some x = some ⟨b, off, none⟩ ∧ ∀ j, j < len → w.cell? ⟨b, off + j, none⟩ = some (.string (ss.getD j ByteArray.empty))) := hcells
    clear hlen hcells hnil hfit
    go_enter Try.func12, Try.ntmps12
    go_wp2_with (at_make; refine wpList_make_rep _ rfl _ _ 25 rfl 9 _ 16 Try.underlying25 info9 rfl len rfl rfl (by omega) (by unfold maxLen; omega) ?_)
    go_loopw [4] (fun i wr => ∃ (k : Nat) (vs : Array Value), k ≤ len ∧ i = .int .i64 k ∧ wr.heap[w.heap.size]? = some (.cells vs 9 (0, 0)) ∧ vs.size = len ∧ (∀ j, j < k → vs[j]? = some (.string (ss.getD j ByteArray.empty))) ∧ Below w.heap.size w wr) (fun i _ => len - (intOf i).toNat)
    case atStart => exact ⟨0, _, Nat.zero_le _, rfl, heap_alloc_new _ _, by simp, fun j hj => absurd hj (Nat.not_lt_zero _), (Below.refl _ _).alloc (Nat.le_refl _) _⟩
    case round =>
      obtain ⟨k, vs, hk, rfl, hb, hsz, hvs, hbel⟩ := hrel
      by_cases hlt : k < len
      · obtain ⟨b, off, hx, hc⟩ := HC.out (by omega)
        cases hx
        have hcw := hc k hlt
        have hbl : b < w.heap.size := World.block_lt_of_cell? w _ hcw
        have hcell : wr.cell? ⟨b, off + k, none⟩ = some (.string (ss.getD k ByteArray.empty)) := (hbel.cell (by exact hbl)).trans hcw
        obtain ⟨vk, hcv⟩ := cell_some (i := k) hb (by omega)
        have hfr := free_in (i := k) hb
        have HB : Hid (wr.heap[w.heap.size]? = some (.cells vs 9 (0, 0))) := hb
        have HV : Hid (∀ j, j < k → vs[j]? = some (.string (ss.getD j ByteArray.empty))) := hvs
        have HZ : Hid (vs.size = len) := hsz
        clear hc hb hvs hcw hsz
        generalize hsk : ss.getD k ByteArray.empty = sk at hcell
        have HS : Hid (ss.getD k ByteArray.empty = sk) := hsk
        clear hsk
        go_wp2
        go_roundw
        case rel =>
          refine ⟨k + 1, vs.setIfInBounds k (.string sk), by omega, by go_num, block_setCell HB.out _, by simpa using HZ.out, fun j hj => ?_, hbel.setCell (Nat.le_refl _) _⟩
          rcases Nat.lt_or_ge j k with h | h
          · rw [Array.getElem?_setIfInBounds_ne (by omega)]; exact HV.out j h
          · obtain rfl : j = k := by omega
            rw [HS.out, Array.getElem?_setIfInBounds_self_of_lt (by have := HZ.out; omega)]
        case measure => simp [intOf]; omega
      · obtain rfl : k = len := by omega
        have e1 : vs = strArr ss := strArr_of (hsz.trans HL.out.symm) (fun j hj => hvs j (by have := HL.out; omega))
        subst e1
        have HB : Hid (wr.heap[w.heap.size]? = some (.cells (strArr ss) 9 (0, 0))) := hb
        clear hb hvs hsz
        go_wp2
        go_ret
        exact ⟨_, rfl, fun _ => ⟨rfl, HB.out⟩, hbel⟩
end Go.Proofs.Qxb6604668a
