/-
  THE PROOF OF 'Rows.FnSymbolCellsFreshZeroedSaid': the guide's frame for this function's types; the walk is ours.
-/
import Derived.Test.Qxb6602636aRows
import Derived.WalkKit
import Derived.ProofKit
import Derived.OpenShut
import Derived.ShutString
import Derived.Test.Qxb6602636aCells
namespace Go.Proofs.Qxb6602636a.fnSymbolCellsFreshZeroed
open Go.ChangeShapes Go.WideShapes Go.ChangeAt Go.RowKit
open Go.ChangeMaps (open_string shut_string)
set_option linter.unusedVariables false      -- a walk need not use every 'w<i>' (that an integer argument fits its kind)

theorem own : ownKnob Try.prog.godebug = none := by kernel_rfl

set_option maxHeartbeats 1000000 in
theorem walk (a0 : Int) (a1 : Int) (w : World) :
    Calls Try.prog 3 #[.int .i64 a0, .int .i64 a1] w fun e w' => e = .returned (.bool true) ∧ Below w.heap.size w w' := by
  by_cases p0 : a0 < 0
  · go_enter Try.func3, Try.ntmps3
    go_wp2_with fail
    go_ret
    exact ⟨rfl, Below.refl _ _⟩
  by_cases p1 : a1 < 0
  · go_enter Try.func3, Try.ntmps3
    go_wp2_with fail
    go_ret
    exact ⟨rfl, Below.refl _ _⟩
  obtain ⟨h, rfl⟩ : ∃ h : Nat, a0 = h := ⟨a0.toNat, by omega⟩
  obtain ⟨t, rfl⟩ : ∃ t : Nat, a1 = t := ⟨a1.toNat, by omega⟩
  by_cases p2 : 65536 < h
  · go_enter Try.func3, Try.ntmps3
    go_wp2_with fail
    go_ret
    exact ⟨rfl, Below.refl _ _⟩
  by_cases p3 : 1048576 < t
  · go_enter Try.func3, Try.ntmps3
    go_wp2_with fail
    go_ret
    exact ⟨rfl, Below.refl _ _⟩
  obtain ⟨N, hN⟩ : ∃ N, N = h * t := ⟨_, rfl⟩
  have eN : (h : Int) * (t : Int) = (N : Int) := by rw [hN]; exact (Int.natCast_mul h t).symm
  have hNb : N ≤ 68719476736 := by
    rw [hN]
    have := Nat.mul_le_mul (show h ≤ 65536 by omega) (show t ≤ 1048576 by omega)
    omega
  have HN : Hid (N = h * t) := hN
  clear hN
  by_cases p4 : 1048576 < N
  · go_enter Try.func3, Try.ntmps3
    go_wp2_with fail
    go_ret
    exact ⟨rfl, Below.refl _ _⟩
  go_enter Try.func3, Try.ntmps3
  go_wp2_with fail
  refine (zzSymbolCells h t w (by omega) (by omega) (by have := HN.out; omega)).mono ?_
  rintro e w1 ⟨rfl, hc, hby, hb⟩
  have HC : Hid (Cells w1 (w.heap.size + 1) w.heap.size h t h) := hc
  have HB : Hid (Bytes w1 w.heap.size (h * t) (fun _ => 0)) := hby
  clear hc hby
  go_wp2_with fail
  go_loop [6] (fun i => ∃ k : Nat, k ≤ h ∧ i = .int .i64 k) (fun i => h - (intOf i).toNat)
  case atStart => exact ⟨0, Nat.zero_le _, rfl⟩
  case round =>
    obtain ⟨k, hk, rfl⟩ := hrel
    by_cases hlt : k < h
    · have c0 := HC.out.cell hlt
      obtain ⟨L, hL⟩ : ∃ L, L = k * t := ⟨_, rfl⟩
      rw [← hL] at c0
      have hLN : L + t ≤ h * t := by
        rw [hL]
        have := Nat.mul_le_mul_right t (show k + 1 ≤ h from hlt)
        rw [Nat.succ_mul] at this
        exact this
      have HLN : Hid (L + t ≤ h * t) := hLN
      clear hL hLN
      go_wp2_with fail
      go_loop [8] (fun i => ∃ q : Nat, q ≤ t ∧ i = .int .i64 q) (fun i => t - (intOf i).toNat)
      case atStart => exact ⟨0, Nat.zero_le _, rfl⟩
      case round =>
        obtain ⟨q, hq, rfl⟩ := hrel
        by_cases hqt : q < t
        · have c1 := HB.out.cell (i := L + q) (by have := HLN.out; omega)
          go_wp2_with fail
          go_round
          case rel => exact ⟨q + 1, by omega, by go_num⟩
          case measure => simp [intOf]; omega
        · go_wp2_with fail
          go_round
          case rel => exact ⟨k + 1, by omega, by go_num⟩
          case measure => simp [intOf]; omega
    · go_wp2_with fail
      go_ret
      exact ⟨rfl, hb⟩

/-! ### THE ROW's STEP: WRITTEN OUT: LEAVE IT -/
set_option maxRecDepth 100000 in
theorem lifted (os : Os) (started : os.Started) (H : Type) (enc : TypeId × Value → H) :
    ReturnsInHanded {} Try.checked os 3 .any (Rows.fnSymbolCellsFreshZeroedSpec.pre6 enc Try.prog Try.f3 Rows.fnSymbolCellsFreshZeroedRow.domain false) (Rows.fnSymbolCellsFreshZeroedSpec.post enc Try.prog Try.f3 false true false false) := by
  refine returnsInHanded_of_change (C := Try.checked) own started (by kernel_rfl) Try.func3
    (ChangeSpec.witness6 (enc := enc) (C := Try.checked) false ⟨#[], #[.int .i64 0, .int .i64 0], []⟩ 8 (by kernel_rfl) (by kernel_rfl) (by kernel_rfl) (by kernel_rfl)) ?_
  intro W base args ds gs before hval0 hW hcnd _
  have hval : ∀ (j : Nat) t v, Try.f3.params[j]? = some t → args[j]? = some v → Value.okWide Try.prog W .any base t v := hval0
  have hW' := hW
  obtain ⟨p, q, hA0, hV, rfl, hfz, hnd⟩ := hW
  have hA : DataW.TrodAll enc Try.prog W 0 (fun _ => true) true Try.f3.params.toList args.toList ds p := hA0
  rw [Try.params3] at hA hval
  obtain ⟨v0, vs0, d0, ds0, p0, q0, hargs, rfl, rfl, h0, r0⟩ := trodAll_cons hA
  obtain ⟨v1, vs1, d1, ds1, p1, q1, rfl, rfl, rfl, h1, r1⟩ := trodAll_cons r0
  obtain ⟨rfl, rfl, rfl⟩ := trodAll_nil r1
  obtain rfl : args = #[v0, v1] := by cases args; simp_all
  obtain ⟨rfl, rfl⟩ := trodVars_none hV
  obtain ⟨a0, rfl, rfl, rfl, w0⟩ := open_int Try.underlying3 (hval 0 3 v0 rfl rfl) h0
  obtain ⟨a1, rfl, rfl, rfl, w1⟩ := open_int Try.underlying3 (hval 1 3 v1 rfl rfl) h1
  clear hA0 hval0
  refine (walk a0 a1 W).mono fun e W' ⟨he, bel⟩ => ?_
  subst he
  exact ⟨_, rfl, _, _, _, [], _, [], hW', trodAll_mk1 (shut_bool Try.underlying4 _), (trodAll_cons_mk (shut_int Try.underlying3 w0) (trodAll_cons_mk (shut_int Try.underlying3 w1) trodAll_mk0)), rfl, bel.frame _, fun h => by cases h⟩

theorem over : Rows.fnSymbolCellsFreshZeroedRow.holds Try.pinned (OpenSpec.ofChange Rows.fnSymbolCellsFreshZeroedSpec) :=
  OpenClaim.holds_of_wide 3 Try.f3 rfl rfl rfl rfl rfl rfl rfl ⟨rfl, rfl, rfl, rfl, rfl⟩ rfl rfl rfl rfl rfl (by kernel_rfl) Try.func3 (by kernel_rfl)
    (of_decide_eq_true (by kernel_rfl)) (by unfold Func.isWrapper; first | (rw [if_pos (by decide +kernel)]; kernel_rfl) | (rw [if_neg (by decide +kernel)]; exact ⟨rfl, rfl⟩))
    (fun os started H enc _ => lifted os started H enc)

/-- THE STATEMENT -/
theorem proved : Rows.FnSymbolCellsFreshZeroedSaid :=
  over
#print axioms proved
end Go.Proofs.Qxb6602636a.fnSymbolCellsFreshZeroed
