/-
  THE PROOF OF 'Rows.FnHoldingsAtKeepsRecordedHoldingSaid': the guide's frame for this function's types; the walk is ours.
-/
import Derived.Test.Qxb6604668aRows
import Derived.WalkKit
import Derived.ProofKit
import Derived.OpenShut
import Derived.ShutString
import Derived.Test.Qxb6604668aHs
namespace Go.Proofs.Qxb6604668a.fnHoldingsAtKeepsRecordedHolding
open Go.ChangeShapes Go.WideShapes Go.ChangeAt Go.RowKit
open Go.ChangeMaps (open_string shut_string)
set_option linter.unusedVariables false      -- a walk need not use every 'w<i>' (that an integer argument fits its kind)

theorem own : ownKnob Try.prog.godebug = none := by kernel_rfl

set_option maxHeartbeats 1000000 in
theorem walk (a0 : ByteArray) (a1 : Bool) (a2 : Bool) (a3 : ByteArray) (a4 : Int) (a5 : ByteArray) (a6 : Int) (a7 : Int) (a8 : ByteArray) (w0 : a0.size ≤ maxLen) (w3 : a3.size ≤ maxLen) (w5 : a5.size ≤ maxLen) (w8 : a8.size ≤ maxLen) (w : World) :
    Calls Try.prog 5 #[.string a0, .bool a1, .bool a2, .string a3, .int .i64 a4, .string a5, .int .i64 a6, .int .i64 a7, .string a8] w fun e w' => e = .returned (.bool true) ∧ Below w.heap.size w w' := by
  have es := eql_same
  have ns := neq_same
  go_enter Try.func5, Try.ntmps5
  go_wp2_with fail
  refine (bytes19 a0 a1 a2 a3 a4 a5 a6 a7 a8 w0 w3 w5 w8 _).mono ?_
  rintro e w' ⟨bb, rfl, rfl, hsum⟩
  cases bb
  · clear hsum
    go_wp2_with fail
    go_ret
    exact ⟨rfl, Below.refl _ _⟩
  replace hsum := hsum rfl
  go_wp2_with fail
  refine (hs_made _ _ _ _ _).mono ?_
  rintro e w1 ⟨rfl, h1, b1, z1⟩
  have Z1 : Hid (w1.heap.size = w'.heap.size + 2) := z1
  clear z1
  go_wp2_with fail
  refine (hs_put h1 w0 (by decide) rfl _ _ _ _ _ _ _).mono ?_
  rintro e w2 ⟨rfl, h2, n2⟩
  go_wp2_with fail
  refine (hs_old h2 w0 (put_same _ _ _)).mono ?_
  rintro e w2 ⟨rfl, rfl⟩
  go_wp2_with fail
  refine (hs_len h2).mono ?_
  rintro e w2 ⟨rfl, rfl⟩
  go_wp2_with fail
  refine (holdingIs _ _ _ _ _ _ _ _ _ (by exact n2.here)).mono ?_
  rintro e w4 ⟨rfl, m1, rfl⟩
  go_wp2_with fail
  by_cases heq : a8 = a0
  · subst heq
    refine (hs_old (h2.drewN m1) w0 (put_same _ _ _)).mono ?_
    rintro e w4 ⟨rfl, rfl⟩
    go_wp2_with fail
    refine (hs_len (h2.drewN m1)).mono ?_
    rintro e w3' ⟨rfl, rfl⟩
    go_wp2_with fail
    refine (hs_task (h2.drewN m1) w0).mono ?_
    rintro e w3' ⟨rfl, rfl⟩
    rw [put_same, ptrOf, Option.map_some]
    go_wp2_with fail
    refine (holdingIs _ _ _ _ _ _ _ _ _ (by exact n2.here)).mono ?_
    rintro e w4 ⟨rfl, m2, rfl⟩
    go_wp2_with fail
    go_ret
    exact ⟨rfl, below_drewN (b1.trans n2.below) _⟩
  · have hf : put (fun _ => none) a0 w1.heap.size a8 = none := put_other _ _ heq
    refine (hs_new (h2.drewN m1) w8 (by decide) hf).mono ?_
    rintro e w4 ⟨rfl, h4, n4⟩
    have hz := n2.size
    have e1 : w4.heap[w1.heap.size]? = some (holdingObj a1 a2 a3 a4 a5 a6 a7) := n4.kept n2.here (by have := Z1.out; omega)
    have e2 : w4.heap[w2.heap.size]? = some emptyHolding := n4.here
    have hne := eql_other (w := w4) (Nat.ne_of_gt hz) e2 e1
    have hbe := str_ne heq
    clear hf
    go_wp2_with fail
    refine (hs_len h4).mono ?_
    rintro e w4 ⟨rfl, rfl⟩
    go_wp2_with fail
    refine (hs_task h4 w8).mono ?_
    rintro e w4 ⟨rfl, rfl⟩
    rw [put_same, ptrOf, Option.map_some, World.heap_drewN]
    go_wp2_with fail
    refine (holdingIs _ false false ByteArray.empty 0 ByteArray.empty 0 0 _ (by exact e2)).mono ?_
    rintro e w5 ⟨rfl, m2, rfl⟩
    go_wp2_with fail
    refine (hs_task (h4.drewN m2) w0).mono ?_
    rintro e w5 ⟨rfl, rfl⟩
    rw [put_other _ _ (fun e => heq e.symm), put_same, ptrOf, Option.map_some]
    go_wp2_with fail
    refine (holdingIs _ _ _ _ _ _ _ _ _ (by exact e1)).mono ?_
    rintro e w5 ⟨rfl, m3, rfl⟩
    go_wp2_with fail
    go_ret
    exact ⟨rfl, below_drewN ((below_drewN (b1.trans n2.below) m1).trans n4.below) _⟩

/-! ### THE ROW's STEP: WRITTEN OUT: LEAVE IT -/
set_option maxRecDepth 100000 in
theorem lifted (os : Os) (started : os.Started) (H : Type) (enc : TypeId × Value → H) :
    ReturnsInHanded {} Try.checked os 5 .any (Rows.fnHoldingsAtKeepsRecordedHoldingSpec.pre6 enc Try.prog Try.f5 Rows.fnHoldingsAtKeepsRecordedHoldingRow.domain false) (Rows.fnHoldingsAtKeepsRecordedHoldingSpec.post enc Try.prog Try.f5 false true false false) := by
  refine returnsInHanded_of_change (C := Try.checked) own started (by kernel_rfl) Try.func5
    (ChangeSpec.witness6 (enc := enc) (C := Try.checked) false ⟨#[], #[.string ByteArray.empty, .bool false, .bool false, .string ByteArray.empty, .int .i64 0, .string ByteArray.empty, .int .i64 0, .int .i64 0, .string ByteArray.empty], []⟩ 8 (by kernel_rfl) (by kernel_rfl) (by kernel_rfl) (by kernel_rfl)) ?_
  intro W base args ds gs before hval0 hW hcnd _
  have hval : ∀ (j : Nat) t v, Try.f5.params[j]? = some t → args[j]? = some v → Value.okWide Try.prog W .any base t v := hval0
  have hW' := hW
  obtain ⟨p, q, hA0, hV, rfl, hfz, hnd⟩ := hW
  have hA : DataW.TrodAll enc Try.prog W 0 (fun _ => true) true Try.f5.params.toList args.toList ds p := hA0
  rw [Try.params5] at hA hval
  obtain ⟨v0, vs0, d0, ds0, p0, q0, hargs, rfl, rfl, h0, r0⟩ := trodAll_cons hA
  obtain ⟨v1, vs1, d1, ds1, p1, q1, rfl, rfl, rfl, h1, r1⟩ := trodAll_cons r0
  obtain ⟨v2, vs2, d2, ds2, p2, q2, rfl, rfl, rfl, h2, r2⟩ := trodAll_cons r1
  obtain ⟨v3, vs3, d3, ds3, p3, q3, rfl, rfl, rfl, h3, r3⟩ := trodAll_cons r2
  obtain ⟨v4, vs4, d4, ds4, p4, q4, rfl, rfl, rfl, h4, r4⟩ := trodAll_cons r3
  obtain ⟨v5, vs5, d5, ds5, p5, q5, rfl, rfl, rfl, h5, r5⟩ := trodAll_cons r4
  obtain ⟨v6, vs6, d6, ds6, p6, q6, rfl, rfl, rfl, h6, r6⟩ := trodAll_cons r5
  obtain ⟨v7, vs7, d7, ds7, p7, q7, rfl, rfl, rfl, h7, r7⟩ := trodAll_cons r6
  obtain ⟨v8, vs8, d8, ds8, p8, q8, rfl, rfl, rfl, h8, r8⟩ := trodAll_cons r7
  obtain ⟨rfl, rfl, rfl⟩ := trodAll_nil r8
  obtain rfl : args = #[v0, v1, v2, v3, v4, v5, v6, v7, v8] := by cases args; simp_all
  obtain ⟨rfl, rfl⟩ := trodVars_none hV
  obtain ⟨a0, rfl, rfl, rfl, w0⟩ := open_string Try.underlying9 (hval 0 9 v0 rfl rfl) h0
  obtain ⟨a1, rfl, rfl, rfl⟩ := open_bool Try.underlying4 (hval 1 4 v1 rfl rfl) h1
  obtain ⟨a2, rfl, rfl, rfl⟩ := open_bool Try.underlying4 (hval 2 4 v2 rfl rfl) h2
  obtain ⟨a3, rfl, rfl, rfl, w3⟩ := open_string Try.underlying9 (hval 3 9 v3 rfl rfl) h3
  obtain ⟨a4, rfl, rfl, rfl, w4⟩ := open_int Try.underlying2 (hval 4 2 v4 rfl rfl) h4
  obtain ⟨a5, rfl, rfl, rfl, w5⟩ := open_string Try.underlying9 (hval 5 9 v5 rfl rfl) h5
  obtain ⟨a6, rfl, rfl, rfl, w6⟩ := open_int Try.underlying2 (hval 6 2 v6 rfl rfl) h6
  obtain ⟨a7, rfl, rfl, rfl, w7⟩ := open_int Try.underlying2 (hval 7 2 v7 rfl rfl) h7
  obtain ⟨a8, rfl, rfl, rfl, w8⟩ := open_string Try.underlying9 (hval 8 9 v8 rfl rfl) h8
  clear hA0 hval0
  refine (walk a0 a1 a2 a3 a4 a5 a6 a7 a8 w0 w3 w5 w8 W).mono fun e W' ⟨he, bel⟩ => ?_
  subst he
  exact ⟨_, rfl, _, _, _, [], _, [], hW', trodAll_mk1 (shut_bool Try.underlying4 _), (trodAll_cons_mk (shut_string Try.underlying9 w0) (trodAll_cons_mk (shut_bool Try.underlying4 _) (trodAll_cons_mk (shut_bool Try.underlying4 _) (trodAll_cons_mk (shut_string Try.underlying9 w3) (trodAll_cons_mk (shut_int Try.underlying2 w4) (trodAll_cons_mk (shut_string Try.underlying9 w5) (trodAll_cons_mk (shut_int Try.underlying2 w6) (trodAll_cons_mk (shut_int Try.underlying2 w7) (trodAll_cons_mk (shut_string Try.underlying9 w8) trodAll_mk0))))))))), rfl, bel.frame _, fun h => by cases h⟩

theorem over : Rows.fnHoldingsAtKeepsRecordedHoldingRow.holds Try.pinned (OpenSpec.ofChange Rows.fnHoldingsAtKeepsRecordedHoldingSpec) :=
  OpenClaim.holds_of_wide 5 Try.f5 rfl rfl rfl rfl rfl rfl rfl ⟨rfl, rfl, rfl, rfl, rfl⟩ rfl rfl rfl rfl rfl (by kernel_rfl) Try.func5 (by kernel_rfl)
    (of_decide_eq_true (by kernel_rfl)) (by unfold Func.isWrapper; first | (rw [if_pos (by decide +kernel)]; kernel_rfl) | (rw [if_neg (by decide +kernel)]; exact ⟨rfl, rfl⟩))
    (fun os started H enc _ => lifted os started H enc)

/-- ████ THE STATEMENT ████ -/
theorem proved : Rows.FnHoldingsAtKeepsRecordedHoldingSaid :=
  over
#print axioms proved
end Go.Proofs.Qxb6604668a.fnHoldingsAtKeepsRecordedHolding
