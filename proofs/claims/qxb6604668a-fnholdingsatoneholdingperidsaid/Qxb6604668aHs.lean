/-
  A holdings that the call itself has made, as one word over the world: 'Hs w B l d s n k f c': its map is block B, its struct block B + 1; the contracts of Qxb6604668aHold, Qxb6604668aIs restated over it.
-/
import Derived.Test.Qxb6604668aHold
import Derived.Test.Qxb6604668aIs
namespace Go.Proofs.Qxb6604668a
open Go.ChangeShapes Go.WideShapes Go.ChangeAt Go.RowKit

def hsObj (l d s : ByteArray) (B : Nat) (n : Int) : Obj := .cells #[.string l, .string d, .string s, .map (some B), .int .i64 n] 59

structure Hs (w : World) (B : Nat) (l d s : ByteArray) (n : Int) (k : Nat) (f : ByteArray → Option Nat) (c : Nat) : Prop where
  pm : Pmap Try.prog 9 w B k f c
  st : w.heap[B + 1]? = some (hsObj l d s B n)

theorem Hs.cell {w : World} {B : Nat} {l d s : ByteArray} {n : Int} {k : Nat} {f : ByteArray → Option Nat} {c : Nat} (h : Hs w B l d s n k f c) : w.cell? ⟨B + 1, 3, none⟩ = some (.map (some B)) := by
  rw [cell_in h.st]; rfl

theorem Hs.lt {w : World} {B : Nat} {l d s : ByteArray} {n : Int} {k : Nat} {f : ByteArray → Option Nat} {c : Nat} (h : Hs w B l d s n k f c) : B + 1 < w.heap.size := lt_of_cell h.cell

theorem Hs.drewN {w : World} {B : Nat} {l d s : ByteArray} {n : Int} {k : Nat} {f : ByteArray → Option Nat} {c : Nat} (h : Hs w B l d s n k f c) (m : Nat) : Hs (w.drewN m) B l d s n k f c := ⟨h.pm, h.st⟩

/-- w' is w but for the entries of the map in block B and for one new block, which holds o. -/
structure New (B : Nat) (o : Obj) (w w' : World) : Prop where
  here : w'.heap[w.heap.size]? = some o
  old : ∀ i, i < w.heap.size → i ≠ B → w'.heap[i]? = w.heap[i]?
  size : w.heap.size < w'.heap.size
  below : Below B w w'

theorem New.of_grown {B : Nat} {o : Obj} {w w' : World} (hB : B < w.heap.size) (h : (w.alloc o).grownBy w' (some B)) : New B o w w' := by
  have hs : (w.alloc o).heap.size = w.heap.size + 1 := by simp
  refine ⟨?_, fun i hi hne => ?_, ?_, ?_⟩
  · rw [h.block w.heap.size (by omega) (by simp; omega)]
    exact heap_alloc_new w o
  · rw [h.block i (by omega) (by simpa using hne)]
    exact Below.heap_alloc w o i hi
  · have := h.size; omega
  · refine ⟨h.os, h.tape, h.output, by have := h.size; omega, fun i hi => ?_⟩
    rw [h.block i (by omega) (by simp; omega)]
    exact Below.heap_alloc w o i (by omega)

theorem New.kept {B : Nat} {o : Obj} {w w' : World} (h : New B o w w') {i : Nat} {x : Obj} (hi : w.heap[i]? = some x) (hne : i ≠ B) : w'.heap[i]? = some x :=
  (h.old i (lt_of_block hi) hne).trans hi

theorem Hs.new {w w' : World} {B : Nat} {l d s : ByteArray} {n : Int} {k : Nat} {f : ByteArray → Option Nat} {c : Nat} {o : Obj} {k' : Nat} {f' : ByteArray → Option Nat} {c' : Nat} (h : Hs w B l d s n k f c) (hn : New B o w w') (hp : Pmap Try.prog 9 w' B k' f' c') : Hs w' B l d s n k' f' c' :=
  ⟨hp, (hn.old (B + 1) h.lt (by omega)).trans h.st⟩

theorem hs_made (l d s : ByteArray) (n : Int) (w : World) :
    Calls Try.prog 13 #[.string l, .string d, .string s, .int .i64 n] w fun e w' => e = .returned (.pointer (some ⟨w.heap.size + 1, 0, none⟩)) ∧ Hs w' w.heap.size l d s n 0 (fun _ => none) 0 ∧ Below w.heap.size w w' ∧ w'.heap.size = w.heap.size + 2 := by
  refine (newHoldings l d s n w).mono ?_
  rintro e w' ⟨rfl, rfl⟩
  refine ⟨rfl, ⟨(Pmap.made w).alloc _, ?_⟩, ((Below.refl _ _).alloc (Nat.le_refl _) _).alloc (by simp) _, by simp⟩
  have e1 : (w.alloc (.map #[] 0)).heap.size = w.heap.size + 1 := by simp
  rw [← e1]
  exact heap_alloc_new _ _

section
variable {w : World} {B : Nat} {l d s : ByteArray} {n : Int} {k : Nat} {f : ByteArray → Option Nat} {c : Nat}

theorem hs_task (h : Hs w B l d s n k f c) {id : ByteArray} (hs : id.size ≤ maxLen) :
    Calls Try.prog 17 #[.pointer (some ⟨B + 1, 0, none⟩), .string id] w fun e w' => e = .returned (ptrOf (f id)) ∧ w' = w := taskOf (B + 1) B k c f id w h.cell h.pm hs

theorem hs_len (h : Hs w B l d s n k f c) : Calls Try.prog 16 #[.pointer (some ⟨B + 1, 0, none⟩)] w fun e w' => e = .returned (.int .i64 c) ∧ w' = w := lenOf (B + 1) B k c f w h.cell h.pm

theorem hs_old (h : Hs w B l d s n k f c) {id : ByteArray} (hs : id.size ≤ maxLen) {x : Nat} (hf : f id = some x) :
    Calls Try.prog 14 #[.pointer (some ⟨B + 1, 0, none⟩), .string id] w fun e w' => e = .returned (.pointer (some ⟨x, 0, none⟩)) ∧ w' = w := holdingsAt_old (B + 1) B k c x f id w h.cell h.pm hs hf

theorem hs_new (h : Hs w B l d s n k f c) {id : ByteArray} (hs : id.size ≤ maxLen) (hk : k < maxLen) (hf : f id = none) :
    Calls Try.prog 14 #[.pointer (some ⟨B + 1, 0, none⟩), .string id] w fun e w' => e = .returned (.pointer (some ⟨w.heap.size, 0, none⟩)) ∧ Hs w' B l d s n (k + 1) (put f id w.heap.size) (c + 1) ∧ New B emptyHolding w w' := by
  refine (holdingsAt_new (B + 1) B k c f id w h.cell h.pm hs hk hf).mono ?_
  rintro e w' ⟨rfl, hp, hg⟩
  have hn := New.of_grown h.pm.lt hg
  exact ⟨rfl, h.new hn hp, hn⟩

theorem hs_put (h : Hs w B l d s n k f c) {id : ByteArray} (hs : id.size ≤ maxLen) (hk : k < maxLen) (hf : f id = none) (lv en : Bool) (pn : ByteArray) (pl : Int) (sn : ByteArray) (sl sa : Int) :
    Calls Try.prog 20 #[.pointer (some ⟨B + 1, 0, none⟩), .string id, .bool lv, .bool en, .string pn, .int .i64 pl, .string sn, .int .i64 sl, .int .i64 sa] w fun e w' => e = .returned (.pointer (some ⟨w.heap.size, 0, none⟩)) ∧ Hs w' B l d s n (k + 1) (put f id w.heap.size) (c + 1) ∧ New B (holdingObj lv en pn pl sn sl sa) w w' := by
  refine (holdingsPut (B + 1) B k c f id lv en pn pl sn sl sa w h.cell h.pm hs hk hf).mono ?_
  rintro e w' ⟨rfl, hp, hg⟩
  have hn := New.of_grown h.pm.lt hg
  exact ⟨rfl, h.new hn hp, hn⟩
end

/-- The bound on total length (19): where it says yes the four lengths sum to at most 1<<20. -/
theorem bytes19 (a0 : ByteArray) (a1 : Bool) (a2 : Bool) (a3 : ByteArray) (a4 : Int) (a5 : ByteArray) (a6 : Int) (a7 : Int) (a8 : ByteArray) (w0 : a0.size ≤ maxLen) (w3 : a3.size ≤ maxLen) (w5 : a5.size ≤ maxLen) (w8 : a8.size ≤ maxLen) (w : World) :
    Calls Try.prog 19 #[.string a0, .bool a1, .bool a2, .string a3, .int .i64 a4, .string a5, .int .i64 a6, .int .i64 a7, .string a8] w fun e w' => ∃ bb : Bool, e = .returned (.bool bb) ∧ w' = w ∧ (bb = true → a0.size + a3.size + a5.size + a8.size ≤ 1048576) := by
  unfold maxLen at w0 w3 w5 w8
  go_enter Try.func19, Try.ntmps19
  go_wp2
  all_goals
    go_ret
    exact ⟨_, rfl, rfl, by intro h; first | omega | cases h⟩

end Go.Proofs.Qxb6604668a
