/-
  THE PROOF OF 'Rows.FnSymbolCellsCellsIndependentSaid': the guide's frame for this function's types; the walk is ours.
-/
import Derived.Test.Qxb6602636aRows
import Derived.WalkKit
import Derived.ProofKit
import Derived.OpenShut
import Derived.ShutString
import Derived.Test.Qxb6602636aOnes
namespace Go.Proofs.Qxb6602636a.fnSymbolCellsCellsIndependent
open Go.ChangeShapes Go.WideShapes Go.ChangeAt Go.RowKit
open Go.ChangeMaps (open_string shut_string)
set_option linter.unusedVariables false      -- a walk need not use every 'w<i>' (that an integer argument fits its kind)

theorem own : ownKnob Try.prog.godebug = none := by kernel_rfl

set_option maxHeartbeats 1000000 in
theorem walk (a0 : Int) (a1 : Int) (w : World) :
    Calls Try.prog 4 #[.int .i64 a0, .int .i64 a1] w fun e w' => e = .returned (.bool true) ∧ Below w.heap.size w w' := by
  by_cases p0 : a0 < 0
  · go_enter Try.func4, Try.ntmps4
    go_wp2_with fail
    go_ret
    exact ⟨rfl, Below.refl _ _⟩
  by_cases p1 : a1 < 0
  · go_enter Try.func4, Try.ntmps4
    go_wp2_with fail
    go_ret
    exact ⟨rfl, Below.refl _ _⟩
  obtain ⟨h, rfl⟩ : ∃ h : Nat, a0 = h := ⟨a0.toNat, by omega⟩
  obtain ⟨t, rfl⟩ : ∃ t : Nat, a1 = t := ⟨a1.toNat, by omega⟩
  by_cases p2 : 65536 < h
  · go_enter Try.func4, Try.ntmps4
    go_wp2_with fail
    go_ret
    exact ⟨rfl, Below.refl _ _⟩
  by_cases p3 : 1048576 < t
  · go_enter Try.func4, Try.ntmps4
    go_wp2_with fail
    go_ret
    exact ⟨rfl, Below.refl _ _⟩
  obtain ⟨N, hN⟩ : ∃ N, N = h * t := ⟨_, rfl⟩
  have eN : (h : Int) * (t : Int) = (N : Int) := by rw [hN]; exact (Int.natCast_mul h t).symm
  have hNb : N ≤ 68719476736 := by
    rw [hN]
    have := Nat.mul_le_mul (show h ≤ 65536 by omega) (show t ≤ 1048576 by omega)
    omega
  have HN : Hid (N = h * t) := hN
  clear hN
  by_cases p4 : 1048576 < N
  · go_enter Try.func4, Try.ntmps4
    go_wp2_with fail
    go_ret
    exact ⟨rfl, Below.refl _ _⟩
  go_enter Try.func4, Try.ntmps4
  go_wp2_with fail
  refine (zzSymbolCells h t w (by omega) (by omega) (by have := HN.out; omega)).mono ?_
  rintro e w1 ⟨rfl, hc, hby, hb⟩
  have HC : Hid (Cells w1 (w.heap.size + 1) w.heap.size h t h) := hc
  have HB : Hid (Bytes w1 w.heap.size (h * t) (fun _ => 0)) := hby
  clear hc hby
  go_wp2_with fail
  have hh1 : h ≤ 65536 := by omega
  have ht1 : t ≤ 1048576 := by omega
  go_loop [6] (fun i => ∃ k : Nat, k ≤ h ∧ i = .int .i64 k) (fun i => h - (intOf i).toNat)
  case atStart => exact ⟨0, Nat.zero_le _, rfl⟩
  case round =>
    obtain ⟨k, hk, rfl⟩ := hrel
    by_cases hlt : k < h
    · have c0 := HC.out.cell hlt
      generalize k * t = L at c0
      go_wp2_with fail
      go_round
      case rel => exact ⟨k + 1, by omega, by go_num⟩
      case measure => simp [intOf]; omega
    · go_wp2_with fail
      go_loopw [7] (fun i wr => ∃ k : Nat, k ≤ h ∧ i = .int .i64 k ∧ Cells wr (w.heap.size + 1) w.heap.size h t h ∧ Bytes wr w.heap.size (h * t) (fun p => if p < k * t then 1 else 0) ∧ Below w.heap.size w wr) (fun i _ => h - (intOf i).toNat)
      case atStart => exact ⟨0, Nat.zero_le _, rfl, HC.out, HB.out.ext (fun i _ => by simp), hb⟩
      case round =>
        clear HC HB hb
        obtain ⟨k, hk, rfl, hc, hby, hb⟩ := hrel
        by_cases hlt : k < h
        · have c0 := hc.cell hlt
          have HLN : Hid (k * t + t ≤ h * t) := window_le hlt
          have HKT : Hid ((k + 1) * t = k * t + t) := Nat.succ_mul k t
          have HC : Hid (Cells wr (w.heap.size + 1) w.heap.size h t h) := hc
          have HB : Hid (Bytes wr w.heap.size (h * t) (fun p => if p < k * t then 1 else 0)) := hby
          clear hc hby
          generalize k * t = L at c0 HLN HKT HB
          go_wp2_with fail
          go_loopw [9] (fun i wr => ∃ q : Nat, q ≤ t ∧ i = .int .i64 q ∧ Cells wr (w.heap.size + 1) w.heap.size h t h ∧ Bytes wr w.heap.size (h * t) (fun p => if p < L + q then 1 else 0) ∧ Below w.heap.size w wr) (fun i _ => t - (intOf i).toNat)
          case atStart => exact ⟨0, Nat.zero_le _, rfl, HC.out, HB.out.ext (fun i _ => by simp), hb⟩
          case round =>
            clear HC HB hb c0
            obtain ⟨q, hq, rfl, hc, hby, hb⟩ := hrel
            by_cases hqt : q < t
            · have hin : L + q < h * t := by have := HLN.out; omega
              have c1 := hby.cell (i := L + q) hin
              rw [if_neg (Nat.lt_irrefl _)] at c1
              have f1 := hby.free (L + q)
              have HC : Hid (Cells wr (w.heap.size + 1) w.heap.size h t h) := hc
              have HB : Hid (Bytes wr w.heap.size (h * t) (fun p => if p < L + q then 1 else 0)) := hby
              have HIN : Hid (L + q < h * t) := hin
              clear hc hby hin
              go_wp2_with fail
              go_roundw
              case rel =>
                refine ⟨q + 1, by omega, by go_num, HC.out.other (by simp) _, (HB.out.store HIN.out 1).ext (fun i _ => ?_), hb.setCell (Nat.le_refl _) _⟩
                by_cases e : i = L + q
                · rw [if_pos e, if_pos (by omega)]
                · rw [if_neg e]
                  by_cases e2 : i < L + q
                  · rw [if_pos e2, if_pos (by omega)]
                  · rw [if_neg e2, if_neg (by omega)]
              case measure => simp [intOf]; omega
            · obtain rfl : q = t := by omega
              go_wp2_with fail
              go_roundw
              case rel => exact ⟨k + 1, by omega, by go_num, hc, hby.ext (fun i _ => by rw [HKT.out]), hb⟩
              case measure => simp [intOf]; omega
        · obtain rfl : k = h := by omega
          have hby1 : Bytes wr w.heap.size (k * t) (fun _ => 1) := hby.ext (fun i hi => by rw [if_pos hi])
          have HC : Hid (Cells wr (w.heap.size + 1) w.heap.size k t k) := hc
          have HB : Hid (Bytes wr w.heap.size (k * t) (fun _ => 1)) := hby1
          clear hc hby hby1
          go_wp2_with fail
          refine (allOnes _ _ k t _ hh1 ht1 HC.out HB.out).mono ?_
          rintro e wr ⟨rfl, rfl⟩
          go_wp2_with fail
          go_loopw [10] (fun i wz => ∃ j : Nat, j ≤ k ∧ i = .int .i64 j ∧ Cells wz (w.heap.size + 1) w.heap.size k t k ∧ Bytes wz w.heap.size (k * t) (fun _ => 1) ∧ Below w.heap.size w wz) (fun i _ => k - (intOf i).toNat)
          case atStart => exact ⟨0, Nat.zero_le _, rfl, HC.out, HB.out, hb⟩
          case round =>
            clear HC HB hb
            obtain ⟨j, hj, rfl, hc, hby, hb⟩ := hrel
            by_cases hjk : j < k
            · have c0 := hc.cell hjk
              have HLN : Hid (j * t + t ≤ k * t) := window_le hjk
              generalize j * t = L at c0 HLN
              have hlen1 : (List.replicate t (Value.int .u8 1)).length = t := by simp
              have hbl : Below wr.heap.size wr (wr.alloc (.cells #[.int .u8 7] 5)) := (Below.refl _ _).alloc (Nat.le_refl _) _
              have hby' := hby.later hbl
              have holds : ∀ i u, (List.replicate t (Value.int .u8 1))[i]? = some u → (wr.alloc (.cells #[.int .u8 7] 5)).cell? ((⟨w.heap.size, L, none⟩ : Addr).add i) = some u := fun i u hu => by
                have hi : i < t := by
                  have := (List.getElem?_eq_some_iff.1 hu).1
                  simpa using this
                rw [Go.WideShapes.add_plain, hby'.cell (i := L + i) (by have := HLN.out; omega)]
                simp [hi] at hu
                rw [hu]
              have hnew : (wr.alloc (.cells #[.int .u8 7] 5)).cell? ⟨wr.heap.size, 0, none⟩ = some (.int .u8 7) := by simp
              have HC : Hid (Cells wr (w.heap.size + 1) w.heap.size k t k) := hc
              have HB : Hid (Bytes wr w.heap.size (k * t) (fun _ => 1)) := hby
              have HH : Hid (∀ i u, (List.replicate t (Value.int .u8 1))[i]? = some u → (wr.alloc (.cells #[.int .u8 7] 5)).cell? ((⟨w.heap.size, L, none⟩ : Addr).add i) = some u) := holds
              have HE : Hid ((List.replicate t (Value.int .u8 1)).length = t) := hlen1
              clear hc hby holds hby' hlen1
              go_wp2_with (at_builtin; refine wpList_append_byte _ rfl _ _ rfl ⟨w.heap.size, L, none⟩ t (List.replicate t (.int .u8 1)) rfl HE.out HH.out ⟨wr.heap.size, 0, none⟩ 7 rfl hnew ht1 ?_; intro g cap' w6 hg7 hcap' hgr)
              go_roundw
              case rel => exact ⟨j + 1, by omega, by go_num, (HC.out.later hbl).grown hgr (by simp), (HB.out.later hbl).grown hgr (by simp), (hb.alloc hb.size _).grown hgr (by have := hb.size; simp; omega) (fun k h => by cases h)⟩
              case measure => simp [intOf]; omega
            · obtain rfl : j = k := by omega
              have HC : Hid (Cells wr (w.heap.size + 1) w.heap.size j t j) := hc
              have HB : Hid (Bytes wr w.heap.size (j * t) (fun _ => 1)) := hby
              clear hc hby
              go_wp2_with fail
              refine (allOnes _ _ j t _ hh1 ht1 HC.out HB.out).mono ?_
              rintro e wr ⟨rfl, rfl⟩
              go_wp2_with fail
              go_ret
              exact ⟨rfl, hb⟩

/-! ### THE ROW's STEP: WRITTEN OUT: LEAVE IT -/
set_option maxRecDepth 100000 in
theorem lifted (os : Os) (started : os.Started) (H : Type) (enc : TypeId × Value → H) :
    ReturnsInHanded {} Try.checked os 4 .any (Rows.fnSymbolCellsCellsIndependentSpec.pre6 enc Try.prog Try.f4 Rows.fnSymbolCellsCellsIndependentRow.domain false) (Rows.fnSymbolCellsCellsIndependentSpec.post enc Try.prog Try.f4 false true false false) := by
  refine returnsInHanded_of_change (C := Try.checked) own started (by kernel_rfl) Try.func4
    (ChangeSpec.witness6 (enc := enc) (C := Try.checked) false ⟨#[], #[.int .i64 0, .int .i64 0], []⟩ 8 (by kernel_rfl) (by kernel_rfl) (by kernel_rfl) (by kernel_rfl)) ?_
  intro W base args ds gs before hval0 hW hcnd _
  have hval : ∀ (j : Nat) t v, Try.f4.params[j]? = some t → args[j]? = some v → Value.okWide Try.prog W .any base t v := hval0
  have hW' := hW
  obtain ⟨p, q, hA0, hV, rfl, hfz, hnd⟩ := hW
  have hA : DataW.TrodAll enc Try.prog W 0 (fun _ => true) true Try.f4.params.toList args.toList ds p := hA0
  rw [Try.params4] at hA hval
  obtain ⟨v0, vs0, d0, ds0, p0, q0, hargs, rfl, rfl, h0, r0⟩ := trodAll_cons hA
  obtain ⟨v1, vs1, d1, ds1, p1, q1, rfl, rfl, rfl, h1, r1⟩ := trodAll_cons r0
  obtain ⟨rfl, rfl, rfl⟩ := trodAll_nil r1
  obtain rfl : args = #[v0, v1] := by cases args; simp_all
  obtain ⟨rfl, rfl⟩ := trodVars_none hV
  obtain ⟨a0, rfl, rfl, rfl, w0⟩ := open_int Try.underlying3 (hval 0 3 v0 rfl rfl) h0
  obtain ⟨a1, rfl, rfl, rfl, w1⟩ := open_int Try.underlying3 (hval 1 3 v1 rfl rfl) h1
  clear hA0 hval0
  refine (walk a0 a1 W).mono fun e W' ⟨he, bel⟩ => ?_
  subst he
  exact ⟨_, rfl, _, _, _, [], _, [], hW', trodAll_mk1 (shut_bool Try.underlying4 _), (trodAll_cons_mk (shut_int Try.underlying3 w0) (trodAll_cons_mk (shut_int Try.underlying3 w1) trodAll_mk0)), rfl, bel.frame _, fun h => by cases h⟩

theorem over : Rows.fnSymbolCellsCellsIndependentRow.holds Try.pinned (OpenSpec.ofChange Rows.fnSymbolCellsCellsIndependentSpec) :=
  OpenClaim.holds_of_wide 4 Try.f4 rfl rfl rfl rfl rfl rfl rfl ⟨rfl, rfl, rfl, rfl, rfl⟩ rfl rfl rfl rfl rfl (by kernel_rfl) Try.func4 (by kernel_rfl)
    (of_decide_eq_true (by kernel_rfl)) (by unfold Func.isWrapper; first | (rw [if_pos (by decide +kernel)]; kernel_rfl) | (rw [if_neg (by decide +kernel)]; exact ⟨rfl, rfl⟩))
    (fun os started H enc _ => lifted os started H enc)

/-- THE STATEMENT -/
theorem proved : Rows.FnSymbolCellsCellsIndependentSaid :=
  over
#print axioms proved
end Go.Proofs.Qxb6602636a.fnSymbolCellsCellsIndependent
