/-
  THE CONTRACT of ZZtakeTaker (26), out of takeTaker's.
-/
import Derived.Test.Qxb6604668aTake
namespace Go.Proofs.Qxb6604668a
open Go.ChangeShapes Go.WideShapes Go.ChangeAt Go.RowKit

/-- what ZZtakeTaker leaves -/
def Took (B kk : Nat) (f : ByteArray → Option Nat) (c : Nat) (g : ByteArray → Option Tk) (w : World) (e : Ending) (w' : World) : Prop :=
  ((∀ s, g s = none) ∧ e = .returned (.tuple #[.string ByteArray.empty, .string ByteArray.empty, .int .i64 0, .int .i64 0, .bool false]) ∧ Wk w' B kk f c g ∧ KeptC w w' ∧ Below B w w') ∨
  ∃ s t, g s = some t ∧ (∀ s' t', g s' = some t' → lessT s' t' s t = false) ∧ e = .returned (.tuple #[.string s, .string t.key, .int .i64 t.rev, .int .i64 t.lease, .bool true]) ∧
    Wk w' B kk f c (gput g s { t with given := wrap64 (t.given + 1) }) ∧ KeptC w w' ∧ Below B w w'

/-- later, nothing that was there has turned -/
theorem Wk.later {w w' : World} {B kk : Nat} {f : ByteArray → Option Nat} {c : Nat} {g : ByteArray → Option Tk} (h : Wk w B kk f c g) (hb : Below w.heap.size w w') : Wk w' B kk f c g := by
  obtain ⟨nt, hst⟩ := h.st
  refine ⟨h.pm.below hb h.pm.lt, ⟨nt, (hb.block _ h.lt).trans hst⟩, fun s x hs => ?_, h.gone, h.fits, h.above⟩
  obtain ⟨t, ht, hx⟩ := h.here s x hs
  exact ⟨t, ht, (hb.block _ (lt_of_block hx)).trans hx⟩

theorem KeptC.later {w w1 w' : World} (h : KeptC w w1) (hb : Below w1.heap.size w1 w') : KeptC w w' := fun i vs t hh h1 h2 => by
  have := h i vs t hh h1 h2
  exact (hb.block _ (lt_of_block this)).trans this

set_option maxHeartbeats 1000000 in
theorem took {w : World} {B kk : Nat} {f : ByteArray → Option Nat} {c : Nat} {g : ByteArray → Option Tk} (h : Wk w B kk f c g) :
    Calls Try.prog 26 #[.pointer (some ⟨B + 1, 0, none⟩)] w (Took B kk f c g w) := by
  have H : Hid (Wk w B kk f c g) := h
  clear h
  go_enter Try.func26, Try.ntmps26
  go_wp2_with fail
  refine (takeTaker H.out).mono ?_
  rintro e w1 (⟨h0, rfl, hw, hk, hb⟩ | ⟨s, t, hs, hmin, rfl, hw, hk, hb⟩)
  · go_wp2_with fail
    go_quiet (fail)
    go_wp2_with fail
    have hbl := fun o => below_drewN ((Below.refl w1.heap.size w1).alloc (Nat.le_refl _) o) nq
    exact bodyPost_ret (v := .tuple #[.string ByteArray.empty, .string ByteArray.empty, .int .i64 0, .int .i64 0, .bool false]) (by simp [results, Try.results26, go_sem]) rfl (.inl ⟨h0, rfl, hw.later (hbl _), hk.later (hbl _), hb.trans ((hbl _).mono (by have := hw.lt; omega))⟩)
  · go_wp2_with fail
    go_quiet (fail)
    go_wp2_with fail
    have hbl := fun o => below_drewN ((Below.refl w1.heap.size w1).alloc (Nat.le_refl _) o) nq
    exact bodyPost_ret (v := .tuple #[.string s, .string t.key, .int .i64 t.rev, .int .i64 t.lease, .bool true]) (by simp [results, Try.results26, go_sem]) rfl (.inr ⟨s, t, hs, hmin, rfl, hw.later (hbl _), hk.later (hbl _), hb.trans ((hbl _).mono (by have := hw.lt; omega))⟩)
end Go.Proofs.Qxb6604668a
