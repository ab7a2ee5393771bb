/-
  FOR FnHoldingsAtOneHoldingPerId: what holds at the head of the main loop's round ('Rel'), and what one call of 'at' does to it. And the contract of ZZholdingsFields (18).
-/
import Derived.Test.Qxb6604668aHs
import Derived.Test.Qxb6604668aStrs
namespace Go.Proofs.Qxb6604668a
open Go.ChangeShapes Go.WideShapes Go.ChangeAt Go.RowKit

theorem holdingsFields {w : World} {B : Nat} {l d s : ByteArray} {n : Int} {k : Nat} {f : ByteArray → Option Nat} {c : Nat} (h : Hs w B l d s n k f c) :
    Calls Try.prog 18 #[.pointer (some ⟨B + 1, 0, none⟩)] w fun e w' => e = .returned (.tuple #[.string l, .string d, .string s, .int .i64 n]) ∧ ∃ m, w' = w.drewN m := by
  have hb := h.st
  have h0 := cell_in (i := 0) hb
  have h1 := cell_in (i := 1) hb
  have h2 := cell_in (i := 2) hb
  have h4 := cell_in (i := 4) hb
  simp at h0 h1 h2 h4
  clear hb h
  go_enter Try.func18, Try.ntmps18
  go_wp2
  go_quiet (fail)
  go_wp2
  exact bodyPost_ret (v := .tuple #[.string l, .string d, .string s, .int .i64 n]) (by simp [results, Try.results18, go_sem]) rfl ⟨rfl, _, rfl⟩

theorem info31 : (Try.prog.info? 31).map (fun i => (i.zero, i.size, i.bytes)) = some (some (.pointer none), 1, 8) := by kernel_rfl

/-- the id asked at round j -/
def idAt (ss : List ByteArray) (j : Nat) : ByteArray := ss.getD j ByteArray.empty

/-- At the head of round k: the map holds just the ids of the rounds before; got[j] is the holding of id j, an empty one. Bi: the ids' block; B, B + 1: the holdings; Bg: got's block. -/
structure Rel (w0 w : World) (Bi B Bg len : Nat) (l d s : ByteArray) (n : Int) (ss : List ByteArray) (k c : Nat) (f : ByteArray → Option Nat) (kk : Nat) (xs : List Nat) (gs : Array Value) : Prop where
  hs : Hs w B l d s n kk f c
  hkk : kk ≤ k
  hc : c ≤ k
  xlen : xs.length = k
  hat : ∀ j, j < k → f (idAt ss j) = some (xs.getD j 0)
  hno : ∀ t, (∀ j, j < k → idAt ss j ≠ t) → f t = none
  got : w.heap[Bg]? = some (.cells gs 31 (0, 0))
  gsize : gs.size = len
  gat : ∀ j, j < k → gs[j]? = some (.pointer (some ⟨xs.getD j 0, 0, none⟩))
  held : ∀ j, j < k → w.heap[xs.getD j 0]? = some emptyHolding
  ids : 0 < len → w.heap[Bi]? = some (.cells (strArr ss) 9 (0, 0))
  bel : Below w0.heap.size w0 w

section
variable {w0 w : World} {Bi B Bg len : Nat} {l d s : ByteArray} {n : Int} {ss : List ByteArray} {k c : Nat} {f : ByteArray → Option Nat} {kk : Nat} {xs : List Nat} {gs : Array Value}

theorem Rel.drewN (R : Rel w0 w Bi B Bg len l d s n ss k c f kk xs gs) (m : Nat) : Rel w0 (w.drewN m) Bi B Bg len l d s n ss k c f kk xs gs :=
  ⟨R.hs.drewN m, R.hkk, R.hc, R.xlen, R.hat, R.hno, R.got, R.gsize, R.gat, R.held, R.ids, below_drewN R.bel m⟩

theorem getD_snoc_lt {α : Type} {xs : List α} {j : Nat} (x z : α) (h : j < xs.length) : (xs ++ [x]).getD j z = xs.getD j z := by
  simp [List.getD_eq_getElem?_getD, List.getElem?_append_left h]
theorem getD_snoc_eq {α : Type} {xs : List α} (x z : α) : (xs ++ [x]).getD xs.length z = x := by
  simp [List.getD_eq_getElem?_getD]

theorem emptyHolding_ne {vs : Array Value} (h : some emptyHolding = some (Obj.cells vs 31 (0, 0))) : False := by
  simp [emptyHolding] at h

theorem Rel.ne_got (R : Rel w0 w Bi B Bg len l d s n ss k c f kk xs gs) {j : Nat} (hj : j < k) : xs.getD j 0 ≠ Bg := fun e => by
  have h := R.held j hj
  rw [e, R.got] at h
  exact emptyHolding_ne h.symm

theorem Rel.apart (R : Rel w0 w Bi B Bg len l d s n ss k c f kk xs gs) : Bg ≠ B ∧ Bg ≠ B + 1 := by
  obtain ⟨D, ⟨es, clock, h1, _⟩, _⟩ := R.hs.pm
  refine ⟨fun e => ?_, fun e => ?_⟩
  · have h := R.got
    rw [e, h1] at h
    cases h
  · have h := R.got
    rw [e, R.hs.st] at h
    simp [hsObj] at h

theorem Rel.apartIds (R : Rel w0 w Bi B Bg len l d s n ss k c f kk xs gs) (hl : 0 < len) : Bi ≠ Bg ∧ Bi ≠ B := by
  obtain ⟨D, ⟨es, clock, h1, _⟩, _⟩ := R.hs.pm
  refine ⟨fun e => ?_, fun e => ?_⟩
  · have h := R.got
    rw [← e, R.ids hl] at h
    simp at h
  · have h := R.ids hl
    rw [e, h1] at h
    cases h

/-- 'at' of an id that is there: got[k] is stored. -/
theorem Rel.old (R : Rel w0 w Bi B Bg len l d s n ss k c f kk xs gs) (hk : k < len) (h0 : w0.heap.size ≤ Bg) {x : Nat} (hf : f (idAt ss k) = some x) :
    Rel w0 (w.setCell ⟨Bg, k, none⟩ (.pointer (some ⟨x, 0, none⟩))) Bi B Bg len l d s n ss (k + 1) c f kk (xs ++ [x]) (gs.setIfInBounds k (.pointer (some ⟨x, 0, none⟩))) := by
  have hB := R.apart
  have hi := R.apartIds (by omega)
  have hex : ∃ j, j < k ∧ idAt ss j = idAt ss k := by
    refine Classical.byContradiction fun hn => ?_
    have := R.hno (idAt ss k) (fun j hj e => hn ⟨j, hj, e⟩)
    rw [hf] at this
    cases this
  obtain ⟨j0, hj0, he⟩ := hex
  have hxj : x = xs.getD j0 0 := by
    have := R.hat j0 hj0
    rw [he, hf] at this
    exact Option.some.inj this
  have keep : ∀ {i : Nat} {o : Obj}, i ≠ Bg → w.heap[i]? = some o → (w.setCell ⟨Bg, k, none⟩ (.pointer (some ⟨x, 0, none⟩))).heap[i]? = some o := fun hne h => (Below.heap_setCell _ _ _ _ hne).trans h
  refine ⟨⟨R.hs.pm.setCell (by simpa using hB.1.symm) _, keep (by omega) R.hs.st⟩, by have := R.hkk; omega, by have := R.hc; omega, by simp [R.xlen], fun j hj => ?_, fun t ht => R.hno t fun j hj => ht j (by omega), block_setCell R.got _, by simpa using R.gsize, fun j hj => ?_, fun j hj => ?_, fun hl => keep hi.1 (R.ids hl), R.bel.setCell (by simpa using h0) _⟩
  · rcases Nat.lt_or_ge j k with h | h
    · rw [getD_snoc_lt _ _ (by rw [R.xlen]; exact h)]; exact R.hat j h
    · obtain rfl : j = k := by omega
      rw [← R.xlen, getD_snoc_eq, R.xlen, hf]
  · rcases Nat.lt_or_ge j k with h | h
    · rw [getD_snoc_lt _ _ (by rw [R.xlen]; exact h), Array.getElem?_setIfInBounds_ne (by omega)]; exact R.gat j h
    · obtain rfl : j = k := by omega
      rw [Array.getElem?_setIfInBounds_self_of_lt (by rw [R.gsize]; exact hk)]
      have := getD_snoc_eq (xs := xs) x 0
      rw [R.xlen] at this
      rw [this]
  · rcases Nat.lt_or_ge j k with h | h
    · rw [getD_snoc_lt _ _ (by rw [R.xlen]; exact h)]; exact keep (R.ne_got h) (R.held j h)
    · obtain rfl : j = k := by omega
      have := getD_snoc_eq (xs := xs) x 0
      rw [R.xlen] at this
      have hk2 := keep (R.ne_got hj0) (R.held j0 hj0)
      rw [← hxj] at hk2
      rw [this]
      exact hk2

/-- 'at' of a new id: a new empty holding; got[k] is stored. -/
theorem Rel.new (R : Rel w0 w Bi B Bg len l d s n ss k c f kk xs gs) (hk : k < len) (h0 : w0.heap.size ≤ Bg) (h00 : w0.heap.size ≤ B) {w2 : World} (hn : New B emptyHolding w w2)
    (hs2 : Hs w2 B l d s n (kk + 1) (put f (idAt ss k) w.heap.size) (c + 1)) (hnew : ∀ j, j < k → idAt ss j ≠ idAt ss k) :
    Rel w0 (w2.setCell ⟨Bg, k, none⟩ (.pointer (some ⟨w.heap.size, 0, none⟩))) Bi B Bg len l d s n ss (k + 1) (c + 1) (put f (idAt ss k) w.heap.size) (kk + 1) (xs ++ [w.heap.size]) (gs.setIfInBounds k (.pointer (some ⟨w.heap.size, 0, none⟩))) := by
  have hB := R.apart
  have hi := R.apartIds (by omega)
  have keep2 : ∀ {i : Nat} {o : Obj}, i ≠ Bg → w2.heap[i]? = some o → (w2.setCell ⟨Bg, k, none⟩ (.pointer (some ⟨w.heap.size, 0, none⟩))).heap[i]? = some o := fun hne h => (Below.heap_setCell _ _ _ _ hne).trans h
  have neB : ∀ j, j < k → xs.getD j 0 ≠ B := fun j hj e => by
    have h := R.held j hj
    obtain ⟨D, ⟨es, clock, h1, _⟩, _⟩ := R.hs.pm
    rw [e, h1] at h
    cases h
  have gotlt : Bg < w.heap.size := lt_of_block R.got
  refine ⟨⟨hs2.pm.setCell (by simpa using hB.1.symm) _, keep2 (by omega) hs2.st⟩, by have := R.hkk; omega, by have := R.hc; omega, by simp [R.xlen], fun j hj => ?_, fun t ht => ?_, block_setCell (hn.kept R.got hB.1) _, by simpa using R.gsize, fun j hj => ?_, fun j hj => ?_, fun hl => keep2 hi.1 (hn.kept (R.ids hl) hi.2), (R.bel.trans (hn.below.mono h00)).setCell (by simpa using h0) _⟩
  · rcases Nat.lt_or_ge j k with h | h
    · rw [getD_snoc_lt _ _ (by rw [R.xlen]; exact h), put_other _ _ (hnew j h)]; exact R.hat j h
    · obtain rfl : j = k := by omega
      have := getD_snoc_eq (xs := xs) w.heap.size 0
      rw [R.xlen] at this
      rw [this, put_same]
  · rw [put_other _ _ (fun e => ht k (by omega) e.symm)]
    exact R.hno t fun j hj => ht j (by omega)
  · rcases Nat.lt_or_ge j k with h | h
    · rw [getD_snoc_lt _ _ (by rw [R.xlen]; exact h), Array.getElem?_setIfInBounds_ne (by omega)]; exact R.gat j h
    · obtain rfl : j = k := by omega
      rw [Array.getElem?_setIfInBounds_self_of_lt (by rw [R.gsize]; exact hk)]
      have := getD_snoc_eq (xs := xs) w.heap.size 0
      rw [R.xlen] at this
      rw [this]
  · rcases Nat.lt_or_ge j k with h | h
    · rw [getD_snoc_lt _ _ (by rw [R.xlen]; exact h)]; exact keep2 (R.ne_got h) (hn.kept (R.held j h) (neB j h))
    · obtain rfl : j = k := by omega
      have := getD_snoc_eq (xs := xs) w.heap.size 0
      rw [R.xlen] at this
      rw [this]
      exact keep2 (by omega) hn.here

/-- what the walk reads -/
theorem Rel.cellIds (R : Rel w0 w Bi B Bg len l d s n ss k c f kk xs gs) {j : Nat} (hj : j < ss.length) (hl : 0 < len) : w.cell? ⟨Bi, j, none⟩ = some (.string (idAt ss j)) := by
  rw [cell_in (R.ids hl), strArr_at hj]; rfl

theorem Rel.cellGot (R : Rel w0 w Bi B Bg len l d s n ss k c f kk xs gs) {j : Nat} (hj : j < k) : w.cell? ⟨Bg, j, none⟩ = some (.pointer (some ⟨xs.getD j 0, 0, none⟩)) := by
  rw [cell_in R.got, R.gat j hj]
end

end Go.Proofs.Qxb6604668a
