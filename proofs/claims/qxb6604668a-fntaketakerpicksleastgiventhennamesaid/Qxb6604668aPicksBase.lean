/-
  FOR FnTakeTakerPicksLeastGivenThenName: the takers registered so far, as a function; what holds at the heads of its loops.
-/
import Derived.Test.Qxb6604668aTook
import Derived.Test.Qxb6604668aTks
namespace Go.Proofs.Qxb6604668a
open Go.ChangeShapes Go.WideShapes Go.ChangeAt Go.RowKit

theorem IsTks.drewN {w : World} {a : Option Addr} {len cap : Nat} {ts : List (ByteArray × Tk)} (h : IsTks w a len cap ts) (m : Nat) : IsTks (w.drewN m) a len cap ts :=
  ⟨h.hlen, h.hnil, h.fits, fun hl => by
    obtain ⟨b, off, e, hc⟩ := h.cells hl
    exact ⟨b, off, e, fun j hj => ⟨(hc j hj).c0, (hc j hj).c1, (hc j hj).c2, (hc j hj).c3, (hc j hj).c4⟩⟩, h.hcap, h.hmax⟩

/-- the takers of the first k rounds: a later one under a name replaces an earlier -/
def gOf (ts : List (ByteArray × Tk)) (k : Nat) : ByteArray → Option Tk :=
  match k with
  | 0 => fun _ => none
  | k + 1 => gput (gOf ts k) (nameAt ts k) (tkAt ts k)

theorem gOf_some (ts : List (ByteArray × Tk)) : ∀ (k j : Nat), j < k → ∃ t, gOf ts k (nameAt ts j) = some t
  | 0, _, h => absurd h (Nat.not_lt_zero _)
  | k + 1, j, h => by
    unfold gOf
    by_cases e : nameAt ts j = nameAt ts k
    · rw [e]; exact ⟨_, gput_same _ _ _⟩
    · rw [gput_other _ _ e]
      have : j ≠ k := fun e2 => e (by rw [e2])
      exact gOf_some ts k j (by omega)

/-- the last place of a name among the first k -/
def LastOf (ts : List (ByteArray × Tk)) (k : Nat) (s : ByteArray) (m : Int) : Prop :=
  (m = -1 ∧ gOf ts k s = none) ∨ ∃ q : Nat, m = q ∧ q < k ∧ nameAt ts q = s ∧ gOf ts k s = some (tkAt ts q)

theorem LastOf.start (ts : List (ByteArray × Tk)) (s : ByteArray) : LastOf ts 0 s (-1) := .inl ⟨rfl, rfl⟩
theorem LastOf.hit {ts : List (ByteArray × Tk)} {k : Nat} {s : ByteArray} (h : nameAt ts k = s) : LastOf ts (k + 1) s k :=
  .inr ⟨k, rfl, by omega, h, by rw [← h]; exact gput_same _ _ _⟩
theorem LastOf.miss {ts : List (ByteArray × Tk)} {k : Nat} {s : ByteArray} {m : Int} (h : nameAt ts k ≠ s) (hl : LastOf ts k s m) : LastOf ts (k + 1) s m := by
  have e : gOf ts (k + 1) s = gOf ts k s := gput_other _ _ (fun e => h e.symm)
  rcases hl with ⟨h1, h2⟩ | ⟨q, h1, h2, h3, h4⟩
  · exact .inl ⟨h1, e.trans h2⟩
  · exact .inr ⟨q, h1, by omega, h3, e.trans h4⟩

/-- what was handed to the taker of that name -/
def givenOf (g : ByteArray → Option Tk) (s : ByteArray) : Int := ((g s).getD tkD.2).given

theorem givenOf_some {g : ByteArray → Option Tk} {s : ByteArray} {t : Tk} (h : g s = some t) : givenOf g s = t.given := by simp [givenOf, h]

theorem info3 : (Try.prog.info? 3).map (fun i => (i.zero, i.size, i.bytes)) = some (some (.int .i64 0), 1, 8) := by kernel_rfl

/-- the copied takers, in block Bi -/
def TksHeld (w : World) (Bi len : Nat) (ts : List (ByteArray × Tk)) : Prop := 0 < len → ∃ vs, w.heap[Bi]? = some (.cells vs 42 (0, 0)) ∧ ∀ j, j < len → TkIn vs (j * 5) (nameAt ts j) (tkAt ts j)

theorem TksHeld.kept {w w' : World} {Bi len : Nat} {ts : List (ByteArray × Tk)} (h : TksHeld w Bi len ts) (hk : KeptC w w') : TksHeld w' Bi len ts := fun hl => by
  obtain ⟨vs, h1, h2⟩ := h hl
  exact ⟨vs, hk _ _ _ h1 (by decide) (by decide), h2⟩

theorem TksHeld.cells {w : World} {Bi len : Nat} {ts : List (ByteArray × Tk)} (h : TksHeld w Bi len ts) {j : Nat} (hj : j < len) : TkCells w Bi (j * 5) (nameAt ts j) (tkAt ts j) := by
  obtain ⟨vs, h1, h2⟩ := h (by omega)
  exact (h2 j hj).cells h1

/-- the five cells of the taker at j, behind a call that keeps them -/
theorem TksHeld.five {w w' : World} {Bi len : Nat} {ts : List (ByteArray × Tk)} (h : TksHeld w Bi len ts) {m : Nat} (hk : KeptC (w.drewN m) w') {j : Nat} (hj : j < len) :
    w'.cell? ⟨Bi, j * 5, none⟩ = some (.string (nameAt ts j)) ∧ w'.cell? ⟨Bi, j * 5 + 1, none⟩ = some (.string (tkAt ts j).key) ∧ w'.cell? ⟨Bi, j * 5 + 2, none⟩ = some (.int .i64 (tkAt ts j).rev) ∧ w'.cell? ⟨Bi, j * 5 + 3, none⟩ = some (.int .i64 (tkAt ts j).lease) ∧ w'.cell? ⟨Bi, j * 5 + 4, none⟩ = some (.int .i64 (tkAt ts j).given) := by
  obtain ⟨c0, c1, c2, c3, c4⟩ := (h.kept (show KeptC w w' from hk)).cells hj
  exact ⟨c0, c1, c2, c3, c4⟩

/-- the numbers before, in block Bb: the first k are in place -/
def Befores (w : World) (Bb len : Nat) (k : Nat) (b : Nat → Int) : Prop := ∃ vs, w.heap[Bb]? = some (.cells vs 3 (0, 0)) ∧ vs.size = len ∧ ∀ j, j < k → vs[j]? = some (.int .i64 (b j))

theorem Befores.kept {w w' : World} {Bb len k : Nat} {b : Nat → Int} (h : Befores w Bb len k b) (hk : KeptC w w') : Befores w' Bb len k b := by
  obtain ⟨vs, h1, h2⟩ := h
  exact ⟨vs, hk _ _ _ h1 (by decide) (by decide), h2⟩

theorem Befores.cell {w : World} {Bb len k : Nat} {b : Nat → Int} (h : Befores w Bb len k b) {j : Nat} (hj : j < k) : w.cell? ⟨Bb, j, none⟩ = some (.int .i64 (b j)) := by
  obtain ⟨vs, h1, _, h3⟩ := h
  rw [cell_in h1, h3 j hj]

theorem Befores.room {w : World} {Bb len k : Nat} {b : Nat → Int} (h : Befores w Bb len k b) (hk : k < len) : (∃ v, w.cell? ⟨Bb, k, none⟩ = some v) ∧ w.frozen? ⟨Bb, k, none⟩ = false := by
  obtain ⟨vs, h1, h2, _⟩ := h
  exact ⟨cell_some h1 (by omega), free_in h1⟩

theorem Befores.store {w : World} {Bb len k : Nat} {b : Nat → Int} (h : Befores w Bb len k b) (hk : k < len) : Befores (w.setCell ⟨Bb, k, none⟩ (.int .i64 (b k))) Bb len (k + 1) b := by
  obtain ⟨vs, h1, h2, h3⟩ := h
  refine ⟨_, block_setCell h1 _, by simpa using h2, fun j hj => ?_⟩
  rcases Nat.lt_or_ge j k with h | h
  · rw [Array.getElem?_setIfInBounds_ne (by omega)]; exact h3 j h
  · obtain rfl : j = k := by omega
    rw [Array.getElem?_setIfInBounds_self_of_lt (by omega)]

/-- a store into a block of numbers keeps the worker -/
theorem Wk.store {w : World} {B kk : Nat} {f : ByteArray → Option Nat} {c : Nat} {g : ByteArray → Option Tk} (h : Wk w B kk f c g) {Bb i : Nat} {vs : Array Value} (hb : w.heap[Bb]? = some (.cells vs 3 (0, 0))) (v : Value) : Wk (w.setCell ⟨Bb, i, none⟩ v) B kk f c g := by
  obtain ⟨nt, hst⟩ := h.st
  have n1 : B ≠ Bb := fun e => by
    obtain ⟨D, ⟨es, clock, h1, _⟩, _⟩ := h.pm
    rw [← e, h1] at hb
    cases hb
  have n2 : B + 1 ≠ Bb := fun e => by
    rw [← e, hst] at hb
    simp [wkObj] at hb
  refine ⟨h.pm.setCell n1 _, ⟨nt, (Below.heap_setCell _ _ _ _ n2).trans hst⟩, fun s x hs => ?_, h.gone, h.fits, h.above⟩
  obtain ⟨t, ht, hx⟩ := h.here s x hs
  refine ⟨t, ht, (Below.heap_setCell _ _ _ _ (fun e => ?_)).trans hx⟩
  have e' : x = Bb := e
  rw [← e', hx] at hb
  simp [tkObj] at hb

theorem TksHeld.store {w : World} {Bi len : Nat} {ts : List (ByteArray × Tk)} (h : TksHeld w Bi len ts) {Bb i : Nat} {vs : Array Value} (hb : w.heap[Bb]? = some (.cells vs 3 (0, 0))) (v : Value) : TksHeld (w.setCell ⟨Bb, i, none⟩ v) Bi len ts := fun hl => by
  obtain ⟨vs', h1, h2⟩ := h hl
  refine ⟨vs', (Below.heap_setCell _ _ _ _ (fun e => ?_)).trans h1, h2⟩
  have e' : Bi = Bb := e
  rw [← e', h1] at hb
  simp at hb

theorem TksHeld.later {w w' : World} {Bi len : Nat} {ts : List (ByteArray × Tk)} (h : TksHeld w Bi len ts) (hb : Below w.heap.size w w') : TksHeld w' Bi len ts := fun hl => by
  obtain ⟨vs, h1, h2⟩ := h hl
  exact ⟨vs, (hb.block _ (lt_of_block h1)).trans h1, h2⟩

end Go.Proofs.Qxb6604668a
