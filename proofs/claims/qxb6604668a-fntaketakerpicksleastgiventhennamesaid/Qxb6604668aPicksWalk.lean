/-
  THE WALK of FnTakeTakerPicksLeastGivenThenName (6).
-/
import Derived.Test.Qxb6604668aPicksBase
import Derived.Deep.RegionHeld3
namespace Go.Proofs.Qxb6604668a
open Go.ChangeShapes Go.WideShapes Go.ChangeAt Go.RowKit

set_option maxRecDepth 100000 in
set_option maxHeartbeats 8000000 in
theorem picksWalk (a : Option Addr) (len cap : Nat) (ts : List (ByteArray × Tk)) (w : World) (hI : IsTks w a len cap ts) :
    Calls Try.prog 6 #[.slice a len cap] w fun e w' => e = .returned (.bool true) ∧ Below w.heap.size w w' := by
  have hmax := hI.hmax
  have hcap := hI.hcap
  have HI : Hid (IsTks w a len cap ts) := hI
  clear hI
  unfold maxLen at hmax
  go_enter Try.func6, Try.ntmps6
  go_wp2_with fail
  refine (bytes21 a len cap ts w HI.out).mono ?_
  rintro e w ⟨⟨bb, rfl⟩, rfl⟩
  cases bb
  · go_wp2_with fail
    go_ret
    exact ⟨rfl, Below.refl _ _⟩
  by_cases h4 : 4096 < len
  · go_wp2_with fail
    go_ret
    exact ⟨rfl, Below.refl _ _⟩
  go_wp2_with fail
  go_loopw [3, 4] (fun z i wz => ∃ (k m : Nat) (t : Int), k ≤ len ∧ i = .int .i64 k ∧ z = .int .i64 t ∧ wz = w.drewN m) (fun _ i _ => len - (intOf i).toNat)
  case atStart => exact ⟨0, 0, _, Nat.zero_le _, rfl, rfl, rfl⟩
  case round =>
    obtain ⟨k, m, t, hk, rfl, rfl, rfl⟩ := hrel
    by_cases hlt : k < len
    · obtain ⟨b, off, rfl, hc⟩ := HI.out.cells (by omega)
      obtain ⟨c0, c1, _, _, _⟩ := hc k hlt
      obtain ⟨f0, f1⟩ := HI.out.fits k
      unfold maxLen at f0 f1
      clear hc
      generalize nameAt ts k = nk at c0 f0
      generalize (tkAt ts k).key = kk at c1 f1
      go_wp2_with fail
      go_quiet (fail)
      go_wp2_with fail
      · go_ret
        exact ⟨rfl, below_drewN (Below.refl _ _) _⟩
      · go_roundw
        case rel => exact ⟨k + 1, _, _, by omega, by go_num, rfl, rfl⟩
        case measure => simp [intOf]; omega
    · go_wp2_with fail
      refine (copyTakers a len cap ts _ (HI.out.drewN m) (by omega)).mono ?_
      rintro e w1 ⟨a', rfl, hA, b1⟩
      have HA : Hid (0 < len → a' = some ⟨w.heap.size, 0, none⟩) := fun h => (hA h).1
      have hT : TksHeld w1 w.heap.size len ts := fun h => (hA h).2
      clear hA
      have b1' : Below w.heap.size w w1 := (below_drewN (Below.refl _ _) m).trans b1
      go_wp2_with fail
      refine (wk_made w1).mono ?_
      rintro e w2 ⟨rfl, h2, b2, z2⟩
      have Z2 : Hid (w2.heap.size = w1.heap.size + 2) := z2
      clear z2 b1
      have hT2 := hT.later b2
      have hB0 : w.heap.size ≤ w1.heap.size := b1'.size
      have b3 : Below w.heap.size w w2 := b1'.trans (b2.mono hB0)
      clear hT b2 b1' Z2
      generalize hB : w1.heap.size = B at *
      clear hB
      go_wp2_with fail
      go_loopw [6] (fun i wr => ∃ (k kk c : Nat) (f : ByteArray → Option Nat), k ≤ len ∧ kk ≤ k ∧ i = .int .i64 k ∧ Wk wr B kk f c (gOf ts k) ∧ TksHeld wr w.heap.size len ts ∧ Below w.heap.size w wr) (fun i _ => len - (intOf i).toNat)
      case atStart => exact ⟨0, 0, 0, _, Nat.zero_le _, Nat.le_refl _, rfl, h2, hT2, b3⟩
      case round =>
        clear h2 hT2 b3
        obtain ⟨k, kk, c, f, hk, hkk, rfl, hW, hT, hb⟩ := hrel
        by_cases hlt : k < len
        · have ha' := HA.out (by omega)
          clear HA
          subst ha'
          obtain ⟨c0, c1, c2, c3, c4⟩ := hT.cells hlt
          obtain ⟨f0, f1⟩ := HI.out.fits k
          have HWK : Hid (Wk wr B kk f c (gOf ts k)) := hW
          clear hW
          go_wp2_with fail
          have l1 : (0 : Int) ≤ (k : Int) := by omega
          have l2 : (k : Int) < (len : Int) := by omega
          go_region_held3 (fun wz => wz.cell? ⟨w.heap.size, k * 5, none⟩ = some (.string (nameAt ts k)) ∧ wz.cell? ⟨w.heap.size, k * 5 + 1, none⟩ = some (.string (tkAt ts k).key) ∧ wz.cell? ⟨w.heap.size, k * 5 + 2, none⟩ = some (.int .i64 (tkAt ts k).rev) ∧ wz.cell? ⟨w.heap.size, k * 5 + 3, none⟩ = some (.int .i64 (tkAt ts k).lease) ∧ wz.cell? ⟨w.heap.size, k * 5 + 4, none⟩ = some (.int .i64 (tkAt ts k).given)) (first | go_keep | exact hT.five hadd.kept hlt)
            ((go_at_call 24; refine (wk_add (HWK.out.drewN 1) f0 (by unfold maxLen; omega) _ _ _ _).mono ?_; rintro e w5 ⟨rfl, hadd⟩))
          go_wp2_with fail
          go_roundw
          case rel => exact ⟨k + 1, kk + 1, _, _, by omega, by omega, by go_num, hadd.wk, hT.kept hadd.kept, (below_drewN hb 1).trans (hadd.below.mono hB0)⟩
          case measure => simp [intOf]; omega
        · obtain rfl : k = len := by omega
          have HWK : Hid (Wk wr B kk f c (gOf ts k)) := hW
          have HT : Hid (TksHeld wr w.heap.size k ts) := hT
          clear hW hT
          go_wp2_with (at_make; refine wpList_make_rep _ rfl _ _ 47 rfl 3 _ 8 Try.underlying47 info3 rfl k rfl rfl (by omega) (by unfold maxLen; omega) ?_)
          have W0 : Wk (wr.alloc (.cells (Array.replicate k (.int .i64 0)) 3)) B kk f c (gOf ts k) := HWK.out.later ((Below.refl _ _).alloc (Nat.le_refl _) _)
          have T0 : TksHeld (wr.alloc (.cells (Array.replicate k (.int .i64 0)) 3)) w.heap.size k ts := HT.out.later ((Below.refl _ _).alloc (Nat.le_refl _) _)
          have N0 : Befores (wr.alloc (.cells (Array.replicate k (.int .i64 0)) 3)) wr.heap.size k 0 (fun j => givenOf (gOf ts k) (nameAt ts j)) := ⟨_, heap_alloc_new _ _, by simp, fun j hj => absurd hj (Nat.not_lt_zero _)⟩
          have L0 : Below w.heap.size w (wr.alloc (.cells (Array.replicate k (.int .i64 0)) 3)) := hb.alloc hb.size _
          have hBb : w.heap.size ≤ wr.heap.size := hb.size
          clear HWK HT hb
          generalize wr.alloc (.cells (Array.replicate k (.int .i64 0)) 3) = wx at *
          generalize wr.heap.size = Bb at *
          go_loopw [8] (fun i wr => ∃ q : Nat, q ≤ k ∧ i = .int .i64 q ∧ Wk wr B kk f c (gOf ts k) ∧ TksHeld wr w.heap.size k ts ∧ Befores wr Bb k q (fun j => givenOf (gOf ts k) (nameAt ts j)) ∧ Below w.heap.size w wr) (fun i _ => k - (intOf i).toNat)
          case atStart => exact ⟨0, Nat.zero_le _, rfl, W0, T0, N0, L0⟩
          case round =>
            clear W0 T0 N0 L0
            obtain ⟨q, hq, rfl, hW, hT, hN, hb⟩ := hrel
            by_cases hlt : q < k
            · have ha' := HA.out (by omega)
              clear HA
              subst ha'
              obtain ⟨c0, _, _, _, _⟩ := hT.cells hlt
              obtain ⟨f0, _⟩ := HI.out.fits q
              obtain ⟨tq, htq⟩ := gOf_some ts k q hlt
              obtain ⟨⟨v0, r0⟩, r1⟩ := hN.room hlt
              have HWK : Hid (Wk wr B kk f c (gOf ts k)) := hW
              have HT : Hid (TksHeld wr w.heap.size k ts) := hT
              have HN : Hid (Befores wr Bb k q (fun j => givenOf (gOf ts k) (nameAt ts j))) := hN
              have HTQ : Hid (gOf ts k (nameAt ts q) = some tq) := htq
              clear hW hT hN htq
              go_wp2_with fail
              refine (wk_given HWK.out f0 HTQ.out).mono ?_
              rintro e wr ⟨rfl, rfl⟩
              go_wp2_with fail
              have hst := HN.out.store hlt
              rw [givenOf_some HTQ.out] at hst
              obtain ⟨vs, hvs, _⟩ := HN.out
              go_roundw
              case rel => exact ⟨q + 1, by omega, by go_num, HWK.out.store hvs _, HT.out.store hvs _, hst, hb.setCell hBb _⟩
              case measure => simp [intOf]; omega
            · obtain rfl : q = k := by omega
              have HWK : Hid (Wk wr B kk f c (gOf ts q)) := hW
              have HT : Hid (TksHeld wr w.heap.size q ts) := hT
              have HN : Hid (Befores wr Bb q q (fun j => givenOf (gOf ts q) (nameAt ts j))) := hN
              clear hW hT hN
              go_wp2_with fail
              refine (took HWK.out).mono ?_
              rintro e w5 (⟨h0, rfl, hW, hK, hL⟩ | ⟨s, t, hs, hmin, rfl, hW, hK, hL⟩)
              · obtain rfl : q = 0 := by
                  rcases Nat.eq_zero_or_pos q with h | h
                  · exact h
                  · obtain ⟨t, ht⟩ := gOf_some ts q 0 h
                    rw [h0] at ht
                    cases ht
                clear hW hK h0
                go_wp2_with fail
                go_ret
                exact ⟨rfl, hb.trans (hL.mono hB0)⟩
              · have hq0 : 0 < q := by
                  rcases Nat.eq_zero_or_pos q with h | h
                  · rw [h] at hs
                    cases hs
                  · exact h
                have hz : ((q : Int) == 0) = false := beq_eq_false_iff_ne.2 (by omega)
                have ha' := HA.out hq0
                clear HA
                subst ha'
                have T5 := HT.out.kept hK
                have N5 := HN.out.kept hK
                have HW5 : Hid (Wk w5 B kk f c (gput (gOf ts q) s { t with given := wrap64 (t.given + 1) })) := hW
                have HS : Hid (gOf ts q s = some t) := hs
                have HM : Hid (∀ s' t', gOf ts q s' = some t' → lessT s' t' s t = false) := hmin
                have L5 : Below w.heap.size w w5 := hb.trans (hL.mono hB0)
                clear hW hK hL hs hmin HWK HT HN hb
                go_wp2_with fail
                go_loop [16, 17] (fun v i => ∃ (p : Nat) (m : Int), p ≤ q ∧ i = .int .i64 p ∧ v = .int .i64 m ∧ LastOf ts p s m) (fun _ i => q - (intOf i).toNat)
                case atStart => exact ⟨0, _, Nat.zero_le _, rfl, rfl, LastOf.start ts s⟩
                case round =>
                  obtain ⟨p, m, hp, rfl, rfl, hlast⟩ := hrel
                  by_cases hpq : p < q
                  · obtain ⟨c0, _, _, _, _⟩ := T5.cells hpq
                    have HLA : Hid (LastOf ts p s m) := hlast
                    clear hlast
                    by_cases he : nameAt ts p = s
                    · have hbe : ((nameAt ts p).toList == s.toList) = true := by rw [he]; exact beq_self_eq_true _
                      have HE : Hid (nameAt ts p = s) := he
                      clear he
                      go_wp2_with fail
                      go_round
                      case rel => exact ⟨p + 1, _, by omega, by go_num, rfl, LastOf.hit HE.out⟩
                      case measure => simp [intOf]; omega
                    · have hbe := str_ne he
                      have HE : Hid (nameAt ts p ≠ s) := he
                      clear he
                      go_wp2_with fail
                      go_round
                      case rel => exact ⟨p + 1, _, by omega, by go_num, rfl, LastOf.miss HE.out HLA.out⟩
                      case measure => simp [intOf]; omega
                  · obtain rfl : p = q := by omega
                    rcases hlast with ⟨_, hnone⟩ | ⟨x, rfl, hx, hnx, htx⟩
                    · rw [HS.out] at hnone
                      cases hnone
                    · obtain ⟨_, c1, c2, c3, c4⟩ := T5.cells hx
                      rw [HS.out] at htx
                      cases htx
                      go_wp2_with fail
                      clear c1 c2 c3 c4
                      generalize tkAt ts x = t at *
                      go_loop [19] (fun i => ∃ j : Nat, j ≤ p ∧ i = .int .i64 j) (fun i => p - (intOf i).toNat)
                      case atStart => exact ⟨0, Nat.zero_le _, rfl⟩
                      case round =>
                        obtain ⟨j, hj, rfl⟩ := hrel
                        by_cases hjp : j < p
                        · obtain ⟨tj, htj⟩ := gOf_some ts p j hjp
                          obtain ⟨c0, _, _, _, _⟩ := T5.cells hjp
                          have cb := N5.cell hjp
                          rw [givenOf_some htj] at cb
                          have hm := HM.out _ _ htj
                          have hle : t.given ≤ tj.given := by
                            rcases Int.lt_or_le tj.given t.given with h | h
                            · rw [lessT_iff.2 (.inl h)] at hm
                              cases hm
                            · exact h
                          clear htj
                          by_cases he : tj.given = t.given
                          · have hbl : Op.bytesLess (nameAt ts j).toList s.toList = false := by
                              cases hb : Op.bytesLess (nameAt ts j).toList s.toList with
                              | false => rfl
                              | true =>
                                rw [lessT_iff.2 (.inr ⟨he, hb⟩)] at hm
                                cases hm
                            have he' : (tj.given == t.given) = true := by simpa using he
                            clear hm he
                            generalize tj.given = gj at *
                            go_wp2_with fail
                            go_round
                            case rel => exact ⟨j + 1, by omega, by go_num⟩
                            case measure => simp [intOf]; omega
                          · have he' : (tj.given == t.given) = false := by simpa using he
                            clear hm he
                            generalize tj.given = gj at *
                            go_wp2_with fail
                            go_round
                            case rel => exact ⟨j + 1, by omega, by go_num⟩
                            case measure => simp [intOf]; omega
                        · go_wp2_with fail
                          go_loop [20] (fun i => ∃ j : Nat, j ≤ p ∧ i = .int .i64 j) (fun i => p - (intOf i).toNat)
                          case atStart => exact ⟨0, Nat.zero_le _, rfl⟩
                          case round =>
                            obtain ⟨j, hj, rfl⟩ := hrel
                            by_cases hjp : j < p
                            · obtain ⟨tj, htj⟩ := gOf_some ts p j hjp
                              obtain ⟨c0, _, _, _, _⟩ := T5.cells hjp
                              obtain ⟨f0, _⟩ := HI.out.fits j
                              have cb := N5.cell hjp
                              rw [givenOf_some htj] at cb
                              by_cases he : nameAt ts j = s
                              · have hbe : ((nameAt ts j).toList == s.toList) = true := by rw [he]; exact beq_self_eq_true _
                                have hg5 : gput (gOf ts p) s { t with given := wrap64 (t.given + 1) } (nameAt ts j) = some { t with given := wrap64 (t.given + 1) } := by rw [he]; exact gput_same _ _ _
                                have HG5 : Hid (gput (gOf ts p) s { t with given := wrap64 (t.given + 1) } (nameAt ts j) = some { t with given := wrap64 (t.given + 1) }) := hg5
                                clear hg5 he htj
                                go_wp2_with fail
                                refine (wk_given HW5.out f0 HG5.out).mono ?_
                                rintro e w5 ⟨rfl, rfl⟩
                                go_wp2_with fail
                                go_round
                                case rel => exact ⟨j + 1, by omega, by go_num⟩
                                case measure => simp [intOf]; omega
                              · have hbe := str_ne he
                                have hg5 : gput (gOf ts p) s { t with given := wrap64 (t.given + 1) } (nameAt ts j) = some tj := by rw [gput_other _ _ he]; exact htj
                                have HG5 : Hid (gput (gOf ts p) s { t with given := wrap64 (t.given + 1) } (nameAt ts j) = some tj) := hg5
                                clear hg5 he htj
                                go_wp2_with fail
                                refine (wk_given HW5.out f0 HG5.out).mono ?_
                                rintro e w5 ⟨rfl, rfl⟩
                                go_wp2_with fail
                                go_round
                                case rel => exact ⟨j + 1, by omega, by go_num⟩
                                case measure => simp [intOf]; omega
                            · go_wp2_with fail
                              go_ret
                              exact ⟨rfl, L5⟩
end Go.Proofs.Qxb6604668a
