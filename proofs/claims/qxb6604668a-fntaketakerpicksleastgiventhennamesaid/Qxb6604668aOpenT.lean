/-
  A slice of takers among the arguments, opened: from the reader's word to 'IsTks'.
-/
import Derived.Test.Qxb6604668aRows
import Derived.Test.Qxb6604668aTks
import Derived.WalkKit
import Derived.ProofKit
import Derived.OpenShut
import Derived.Deep.Slices
namespace Go.Proofs.Qxb6604668a
open Go.ChangeShapes Go.WideShapes Go.ChangeAt Go.RowKit

theorem cells42 : Try.prog.cellsOf 42 = 5 := by kernel_rfl
theorem cells9 : Try.prog.cellsOf 9 = 1 := by kernel_rfl
theorem cells2 : Try.prog.cellsOf 2 = 1 := by kernel_rfl
theorem cells3 : Try.prog.cellsOf 3 = 1 := by kernel_rfl

theorem five_of {α : Type} {l : List α} (h : l.length = 5) : ∃ a b c d e, l = [a, b, c, d, e] := by
  match l, h with
  | [a, b, c, d, e], _ => exact ⟨a, b, c, d, e, rfl⟩

/-- One taker, opened. -/
theorem open_tk {H : Type} {enc : TypeId × Value → H} {W : World} {base n : Nat} {sp : Nat → Bool} {held : Bool} {cs : List Value} {x : DataW H × List MemPlace} (h : DataW.trod enc Try.prog W base sp held n 42 cs = some x) :
    ∃ p : ByteArray × Tk, cs = [.string p.1, .string p.2.key, .int .i64 p.2.rev, .int .i64 p.2.lease, .int .i64 p.2.given] ∧ p.1.size ≤ maxLen ∧ p.2.key.size ≤ maxLen := by
  obtain ⟨xs, m, _, _, hlen, hxs, hf⟩ := DataW.trod_struct Try.underlying42 h
  rw [cells42] at hlen
  obtain ⟨a, b, c, d, e, rfl⟩ := five_of hlen
  have hxs5 : xs.length = 5 := hxs
  obtain ⟨y0, y1, y2, y3, y4, rfl⟩ := five_of hxs5
  have h0 := hf 0 _ rfl
  have h1 := hf 1 _ rfl
  have h2 := hf 2 _ rfl
  have h3 := hf 3 _ rfl
  have h4 := hf 4 _ rfl
  simp [cells9, cells2, cells3] at h0 h1 h2 h3 h4
  obtain ⟨s0, e0, _, z0⟩ := DataW.trod_string Try.underlying9 h0
  obtain ⟨s1, e1, _, z1⟩ := DataW.trod_string Try.underlying9 h1
  obtain ⟨n2, e2, _, _⟩ := DataW.trod_int Try.underlying2 h2
  obtain ⟨n3, e3, _, _⟩ := DataW.trod_int Try.underlying2 h3
  obtain ⟨n4, e4, _, _⟩ := DataW.trod_int Try.underlying3 h4
  simp at e0 e1 e2 e3 e4
  subst e0 e1 e2 e3 e4
  exact ⟨(s0, ⟨s1, n2, n3, n4⟩), rfl, z0, z1⟩

theorem nameAt_map (F : Nat → ByteArray × Tk) {len j : Nat} (h : j < len) : ((List.range len).map F).getD j tkD = F j := by
  simp [List.getD_eq_getElem?_getD, List.getElem?_range h]

theorem nameAt_out (F : Nat → ByteArray × Tk) {len j : Nat} (h : len ≤ j) : ((List.range len).map F).getD j tkD = tkD := by
  rw [List.getD_eq_getElem?_getD, List.getElem?_eq_none (by simpa using h)]
  rfl

/-- A slice of takers, opened. -/
theorem isTks_of {H : Type} {enc : TypeId × Value → H} {W : World} {a : Option Addr} {len cap : Nat} {base : Nat} {d : DataW H} {p : List MemPlace}
    (h : DataW.Trod enc Try.prog W base (fun _ => true) true 39 (.slice a len cap) d p) : ∃ ts, IsTks W a len cap ts := by
  obtain ⟨fuel, hf⟩ := h
  rcases Deep.open_slice Try.underlying39 hf with ⟨hcs, _⟩ | ⟨x, l, c, m, n, D, Pl, hcs, _, hl, hm, hmm, _, hx⟩
  · simp [Value.cells] at hcs
    obtain ⟨rfl, rfl, rfl⟩ := hcs
    exact ⟨[], ⟨rfl, fun _ => ⟨rfl, rfl⟩, fun j => ⟨by simp [nameAt, tkD], by simp [tkAt, tkD]⟩, fun h => absurd h (Nat.lt_irrefl _), Nat.le_refl _, Nat.zero_le _⟩⟩
  · simp [Value.cells] at hcs
    obtain ⟨rfl, rfl, rfl⟩ := hcs
    simp at hmm
    subst hmm
    rw [cells42] at hx
    obtain ⟨F, hF⟩ := @Deep.choose_lt (ByteArray × Tk) ⟨tkD⟩ len (fun i q => W.cells? base (x.add (i * 5)) 5 = some [.string q.1, .string q.2.key, .int .i64 q.2.rev, .int .i64 q.2.lease, .int .i64 q.2.given] ∧ q.1.size ≤ maxLen ∧ q.2.key.size ≤ maxLen) (fun i hi => by
      obtain ⟨cs', h1, h2⟩ := hx i (by omega)
      obtain ⟨q, rfl, z0, z1⟩ := open_tk h2
      exact ⟨q, h1, z0, z1⟩)
    refine ⟨(List.range len).map F, ⟨by simp, (fun h => by cases h), fun j => ?_, fun hp => ?_, hl, hm⟩⟩
    · unfold nameAt tkAt
      rcases Nat.lt_or_ge j len with h | h
      · rw [nameAt_map F h]
        exact (hF j h).2
      · rw [nameAt_out F h]
        exact ⟨by simp [tkD], by simp [tkD]⟩
    · obtain ⟨b, off, spot⟩ := x
      obtain ⟨h0, _⟩ := hF 0 hp
      obtain ⟨_, _, hc0⟩ := World.cells?_some h0
      have hspot : spot = none := by
        have := World.cell?_spot (w := W) (hc0 0 (by omega))
        simpa [Addr.add] using this
      subst hspot
      refine ⟨b, off, rfl, fun j hj => ?_⟩
      unfold nameAt tkAt
      rw [nameAt_map F hj]
      obtain ⟨h1, _⟩ := hF j hj
      obtain ⟨_, _, hc⟩ := World.cells?_some h1
      have d0 := hc 0 (by omega)
      have d1 := hc 1 (by omega)
      have d2 := hc 2 (by omega)
      have d3 := hc 3 (by omega)
      have d4 := hc 4 (by omega)
      rw [Go.WideShapes.add_plain, Go.WideShapes.add_plain] at d0 d1 d2 d3 d4
      exact ⟨d0, d1, d2, d3, d4⟩
end Go.Proofs.Qxb6604668a
