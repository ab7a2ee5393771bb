/-
  A slice of strings among the arguments, opened: from the reader's word to 'IsStrs'.
-/
import Derived.Test.Qxb6604668aRows
import Derived.Test.Qxb6604668aMem
import Derived.WalkKit
import Derived.ProofKit
import Derived.OpenShut
import Derived.SliceStrings
namespace Go.Proofs.Qxb6604668a
open Go.ChangeShapes Go.WideShapes Go.ChangeAt Go.RowKit

/-- A slice of strings, opened. -/
theorem isStrs_of {H : Type} {enc : TypeId × Value → H} {W : World} {a : Option Addr} {len cap : Nat} {base : Nat} {d : DataW H} {p : List MemPlace}
    (h : DataW.Trod enc Try.prog W base (fun _ => true) true 25 (.slice a len cap) d p) : ∃ ss, IsStrs W a len cap ss := by
  obtain ⟨fuel, hf⟩ := h
  rcases open_strings Try.underlying25 Try.underlying9 (by kernel_rfl) hf with ⟨hcs, _⟩ | ⟨x, l, c, ss, hcs, _, hl, hm, hz, _, hcell, hws⟩
  · simp [Value.cells] at hcs
    obtain ⟨rfl, rfl, rfl⟩ := hcs
    exact ⟨[], ⟨rfl, fun _ => ⟨rfl, rfl⟩, by simp, fun h => absurd h (Nat.lt_irrefl _), Nat.le_refl _, Nat.zero_le _⟩⟩
  · simp [Value.cells] at hcs
    obtain ⟨rfl, rfl, rfl⟩ := hcs
    simp at hz
    refine ⟨ss.take len, ⟨by simp; omega, (fun h => by cases h), fun s hs => hws s (List.mem_of_mem_take hs), fun hp => ?_, hl, hm⟩⟩
    obtain ⟨b, off, spot⟩ := x
    have hspot : spot = none := by simpa [Addr.add] using World.cell?_spot (hcell 0 (by omega))
    subst hspot
    refine ⟨b, off, rfl, fun j hj => ?_⟩
    have h1 := hcell j (by omega)
    rw [Go.WideShapes.add_plain] at h1
    rw [h1]
    simp [List.getD_eq_getElem?_getD, hj]

end Go.Proofs.Qxb6604668a
