/-
  THE WALK of FnTakeTakerRoundRobin (7).
-/
import Derived.Test.Qxb6604668aRobinBase
import Derived.Deep.RegionHeld3
namespace Go.Proofs.Qxb6604668a
open Go.ChangeShapes Go.WideShapes Go.ChangeAt Go.RowKit

/-- the behind-the-copy part's facts on the names' cell behind a call that keeps them -/
theorem NmHeld.one {w w' : World} {Bi len : Nat} {ss : List ByteArray} (h : NmHeld w Bi len ss) (hlen : ss.length = len) {m : Nat} (hk : KeptC (w.drewN m) w') {j : Nat} (hj : j < len) : w'.cell? ⟨Bi, j, none⟩ = some (.string (nmAt ss j)) :=
  (h.kept (show KeptC w w' from hk)).cell hlen hj

set_option maxRecDepth 100000 in
set_option maxHeartbeats 8000000 in
theorem robinWalk (a : Option Addr) (len cap : Nat) (ss : List ByteArray) (K : Int) (w : World) (hI : IsStrs w a len cap ss) :
    Calls Try.prog 7 #[.slice a len cap, .int .i64 K] w fun e w' => e = .returned (.bool true) ∧ Below w.heap.size w w' := by
  have hmax := hI.hmax
  have hcap := hI.hcap
  have HI : Hid (IsStrs w a len cap ss) := hI
  clear hI
  unfold maxLen at hmax
  go_enter Try.func7, Try.ntmps7
  go_wp2_with fail
  refine (bytes27 K a len cap ss w HI.out).mono ?_
  rintro e w ⟨⟨bb, rfl⟩, rfl⟩
  cases bb
  · go_wp2_with fail
    go_ret
    exact ⟨rfl, Below.refl _ _⟩
  by_cases h4 : 4096 < len
  · go_wp2_with fail
    go_ret
    exact ⟨rfl, Below.refl _ _⟩
  go_wp2_with fail
  go_loop [5, 6] (fun z i => ∃ (k : Nat) (t : Int), k ≤ len ∧ i = .int .i64 k ∧ z = .int .i64 t) (fun _ i => len - (intOf i).toNat)
  case atStart => exact ⟨0, _, Nat.zero_le _, rfl, rfl⟩
  case round =>
    obtain ⟨k, t, hk, rfl, rfl⟩ := hrel
    by_cases hlt : k < len
    · obtain ⟨b, off, rfl, hc⟩ := HI.out.cells (by omega)
      have hcell := hc k hlt
      have hfk := HI.out.fit k
      unfold maxLen at hfk
      clear hc
      generalize ss.getD k ByteArray.empty = sk at hcell hfk
      go_wp2_with fail
      · go_ret
        exact ⟨rfl, Below.refl _ _⟩
      · go_round
        case rel => exact ⟨k + 1, _, by omega, by go_num, rfl⟩
        case measure => simp [intOf]; omega
    · by_cases hK0 : K < 0
      · go_wp2_with fail
        go_ret
        exact ⟨rfl, Below.refl _ _⟩
      by_cases hK1 : 4096 < K
      · go_wp2_with fail
        go_ret
        exact ⟨rfl, Below.refl _ _⟩
      obtain ⟨kn, rfl⟩ : ∃ kn : Nat, K = kn := ⟨K.toNat, by omega⟩
      go_wp2_with fail
      refine (copyStrings a len cap ss _ HI.out (by omega)).mono ?_
      rintro e w1 ⟨a', rfl, hA, b1⟩
      have HA : Hid (0 < len → a' = some ⟨w.heap.size, 0, none⟩) := fun h => (hA h).1
      have hN : NmHeld w1 w.heap.size len ss := fun h => (hA h).2
      clear hA
      go_wp2_with fail
      refine (wk_made w1).mono ?_
      rintro e w2 ⟨rfl, h2, b2, z2⟩
      clear z2
      have hB0 : w.heap.size ≤ w1.heap.size := b1.size
      have hN2 := hN.later b2
      have b3 : Below w.heap.size w w2 := b1.trans (b2.mono hB0)
      clear hN b2 b1
      generalize hB : w1.heap.size = B at *
      clear hB
      go_wp2_with fail
      go_loopw [8] (fun i wr => ∃ (k kk c : Nat) (f : ByteArray → Option Nat), k ≤ len ∧ kk ≤ k ∧ i = .int .i64 k ∧ Wk wr B kk f c (g0 ss k) ∧ c = (ds ss k).length ∧ NmHeld wr w.heap.size len ss ∧ Below w.heap.size w wr) (fun i _ => len - (intOf i).toNat)
      case atStart => exact ⟨0, 0, 0, _, Nat.zero_le _, Nat.le_refl _, rfl, h2, rfl, hN2, b3⟩
      case round =>
        clear h2 hN2 b3
        obtain ⟨k, kk, c, f, hk, hkk, rfl, hW, hc, hN, hb⟩ := hrel
        by_cases hlt : k < len
        · have ha' := HA.out (by omega)
          clear HA
          subst ha'
          have c0 := hN.cell HI.out.hlen hlt
          have f0 : (nmAt ss k).size ≤ maxLen := HI.out.fit k
          have HWK : Hid (Wk wr B kk f c (g0 ss k)) := hW
          have HC : Hid (c = (ds ss k).length) := hc
          clear hW hc
          go_wp2_with fail
          have l1 : (0 : Int) ≤ (k : Int) := by omega
          have l2 : (k : Int) < (len : Int) := by omega
          go_region_held3 (fun wz => wz.cell? ⟨w.heap.size, k, none⟩ = some (.string (nmAt ss k))) (first | go_keep | exact hN.one HI.out.hlen hadd.kept hlt)
            ((go_at_call 24; refine (wk_add (HWK.out.drewN 1) f0 (by unfold maxLen; omega) _ _ _ _).mono ?_; rintro e w5 ⟨rfl, hadd⟩))
          go_wp2_with fail
          have hadd' := hadd.wk
          rw [g0_step, ds_count HWK.out HC.out] at hadd'
          go_roundw
          case rel => exact ⟨k + 1, kk + 1, _, _, by omega, by omega, by go_num, hadd', rfl, hN.kept hadd.kept, (below_drewN hb 1).trans (hadd.below.mono hB0)⟩
          case measure => simp [intOf]; omega
        · obtain rfl : k = len := by omega
          have hcl : c ≤ 4096 := by have := ds_length_le ss k; omega
          have HWK : Hid (Wk wr B kk f c (g0 ss k)) := hW
          have HC : Hid (c = (ds ss k).length) := hc
          have HN : Hid (NmHeld wr w.heap.size k ss) := hN
          clear hW hc hN
          go_wp2_with fail
          refine (wk_count HWK.out).mono ?_
          rintro e wr ⟨rfl, rfl⟩
          go_wp2_with (at_make; refine wpList_make_cap _ rfl _ _ 25 rfl 9 _ 16 Try.underlying25 info9 rfl c rfl rfl (by omega) (by unfold maxLen; omega) ?_)
          have hRl : (sortS (ds ss k)).length = c := by rw [sortS_length]; exact HC.out.symm
          have hRs := sortS_sorted _ (ds_nodup ss k)
          have hRm : ∀ s, s ∈ sortS (ds ss k) ↔ ∃ j, j < k ∧ nmAt ss j = s := fun s => by rw [sortS_mem, ds_mem]
          have hSt := St.start ss k
          have hwb : Below wr.heap.size wr (wr.alloc (.cells (Array.replicate c (.string ByteArray.empty)) 9)) := (Below.refl _ _).alloc (Nat.le_refl _) _
          have W0 : Wk (wr.alloc (.cells (Array.replicate c (.string ByteArray.empty)) 9)) B kk f c (g0 ss k) := HWK.out.later hwb
          have N0 : NmHeld (wr.alloc (.cells (Array.replicate c (.string ByteArray.empty)) 9)) w.heap.size k ss := HN.out.later hwb
          have D0 : Round (wr.alloc (.cells (Array.replicate c (.string ByteArray.empty)) 9)) wr.heap.size c 0 (sortS (ds ss k)) := ⟨_, heap_alloc_new _ _, by simp, fun j hj => absurd hj (Nat.not_lt_zero _)⟩
          have L0 : Below w.heap.size w (wr.alloc (.cells (Array.replicate c (.string ByteArray.empty)) 9)) := hb.alloc hb.size _
          have hBr : w.heap.size ≤ wr.heap.size := hb.size
          have HNE : Hid (0 < k → w.heap.size ≠ wr.heap.size) := fun h => by have := lt_of_block (HN.out h); omega
          clear HWK HN hb hwb HC
          generalize wr.alloc (.cells (Array.replicate c (.string ByteArray.empty)) 9) = wx at *
          generalize wr.heap.size = Br at *
          generalize g0 ss k = gi at *
          generalize sortS (ds ss k) = R at *
          have HRL : Hid (R.length = c) := hRl
          have HRS : Hid (R.Pairwise (fun a b => sLess a b = true)) := hRs
          have HRM : Hid (∀ s, s ∈ R ↔ ∃ j, j < k ∧ nmAt ss j = s) := hRm
          clear hRl hRs hRm
          go_loopw [10, 11, 12] (fun rd pv i wr => ∃ (j n : Nat) (g : ByteArray → Option Tk), j ≤ kn ∧ n = min j c ∧ i = .int .i64 j ∧ rd = .slice (some ⟨Br, 0, none⟩) n c ∧ pv = .string (pvAt R j) ∧ Wk wr B kk f c g ∧ St R j g ∧ NmHeld wr w.heap.size k ss ∧ Round wr Br c n R ∧ Below w.heap.size w wr) (fun _ _ i _ => kn - (intOf i).toNat)
          case atStart => exact ⟨0, 0, gi, Nat.zero_le _, by omega, rfl, rfl, rfl, W0, hSt, N0, D0, L0⟩
          case round =>
            clear W0 hSt N0 D0 L0
            obtain ⟨j, n, g, hj, hn, rfl, rfl, rfl, hW, hS, hN, hD, hb⟩ := hrel
            by_cases hjk : j < kn
            · have HWK : Hid (Wk wr B kk f c g) := hW
              have HS : Hid (St R j g) := hS
              have HN : Hid (NmHeld wr w.heap.size k ss) := hN
              have HD : Hid (Round wr Br c n R) := hD
              have HMN : Hid (n = min j c) := hn
              clear hW hS hN hD hn
              go_wp2_with fail
              refine (took HWK.out).mono ?_
              rintro e w5 (⟨h0, rfl, hW, hK, hL⟩ | ⟨s, t, hs, hmin, rfl, hW, hK, hL⟩)
              · have hc0 : c = 0 := by rw [← HRL.out]; exact HS.out.bare h0
                subst hc0
                have hL' := hb.trans (hL.mono hB0)
                have HW5 : Hid (Wk w5 B kk f 0 g) := hW
                have HK5 : Hid (KeptC wr w5) := hK
                clear hW hK hL hb h0
                go_wp2_with fail
                go_roundw
                case rel =>
                  repeat apply Exists.intro
                  exact ⟨⟨j + 1, n, g, by omega, by have := HMN.out; omega, by go_num, rfl, by rw [pvAt_none HRL.out, pvAt_none HRL.out], HW5.out, HS.out.still HRL.out, HN.out.kept HK5.out, HD.out.kept HK5.out, hL'⟩, rfl⟩
                case measure => simp [intOf]; omega
              · obtain ⟨hpos, rfl, rfl⟩ := HS.out.least HRS.out hs hmin
                have hStep := HS.out.step HRS.out hpos (by omega)
                have hin := (HRM.out _).1 (rAt_mem (Nat.mod_lt j hpos))
                have hmod : ((j : Int) % (c : Int)) = ((j % R.length : Nat) : Int) := by rw [HRL.out]; exact (Int.natCast_emod j c).symm
                have hrlt : j % R.length < c := by have := Nat.mod_lt j hpos; have := HRL.out; omega
                have hpc : 0 < c := by omega
                have hz : ((c : Int) == 0) = false := beq_eq_false_iff_ne.2 (by omega)
                have hsmall : j < c → j % R.length = j := fun h => Nat.mod_eq_of_lt (by rw [HRL.out]; exact h)
                have HSM : Hid (j < c → j % R.length = j) := hsmall
                have HPV : Hid (pvAt R (j + 1) = rAt R (j % R.length)) := pvAt_succ R j
                have hN5 := HN.out.kept hK
                have hD5 := HD.out.kept hK
                have hL5 := hb.trans (hL.mono hB0)
                clear hs hmin hsmall hb hK hL
                generalize j % R.length = r at *
                have HW5 : Hid (Wk w5 B kk f c (gput g (rAt R r) ⟨rAt R r, 0, 0, wrap64 (gv R.length j r + 1)⟩)) := hW
                have HST : Hid (St R (j + 1) (gput g (rAt R r) ⟨rAt R r, 0, 0, wrap64 (gv R.length j r + 1)⟩)) := hStep
                have HIN : Hid (∃ j, j < k ∧ nmAt ss j = rAt R r) := hin
                have HN5 : Hid (NmHeld w5 w.heap.size k ss) := hN5
                have HD5 : Hid (Round w5 Br c n R) := hD5
                clear hW hStep hin hN5 hD5
                go_wp2_with fail
                refine (member a' k k w.heap.size ss (rAt R r) w5 (by omega) HI.out.hlen HA.out HN5.out HIN.out).mono ?_
                rintro e w5 ⟨rfl, rfl⟩
                by_cases hjc : j < c
                · obtain rfl : r = j := HSM.out hjc
                  obtain rfl : n = r := by have := HMN.out; omega
                  have hown := (HD5.out.owns (by omega) (by unfold maxLen; omega) (by have := HRL.out; omega)).alloc (.cells #[.string (rAt R n)] 9)
                  have hwb : Below w5.heap.size w5 (w5.alloc (.cells #[.string (rAt R n)] 9)) := (Below.refl _ _).alloc (Nat.le_refl _) _
                  obtain ⟨i0, hi, hz0, hz1, hz2⟩ := info_parts info9
                  have hoc : ∀ u ∈ [Value.string (rAt R n)], u.oneCell' = true := by
                    intro u hu
                    simp at hu
                    subst hu
                    rfl
                  have HFIN : Hid (∀ w6 : World, w6.ownsRow Br 9 1 (.slice (some ⟨Br, 0, none⟩) (n + 1) c) (n + 1) ((R.take n).map Value.string ++ [.string (rAt R n)]) → (w5.alloc (.cells #[.string (rAt R n)] 9)).grownBy w6 (some Br) →
                      Wk w6 B kk f c (gput g (rAt R n) ⟨rAt R n, 0, 0, wrap64 (gv R.length n n + 1)⟩) ∧ NmHeld w6 w.heap.size k ss ∧ Round w6 Br c (n + 1) R ∧ Below w.heap.size w w6) := fun w6 ho hg => by
                    obtain ⟨cur, hcur, _⟩ := HD5.out
                    have hcur' := (hwb.block _ (lt_of_block hcur)).trans hcur
                    refine ⟨(HW5.out.later hwb).turned hcur' hg, (HN5.out.later hwb).turned HNE.out hg, Round.of_owns (by have := HRL.out; omega) ho, ?_⟩
                    exact (hL5.alloc hL5.size _).grown hg (by simp; have := hL5.size; omega) (fun j hj => by cases hj; exact hBr)
                  by_cases hn0 : n = 0
                  · subst hn0
                    go_wp2_with (at_builtin; refine wpList_append_fits _ rfl _ _ 25 rfl Br 9 i0 1 Try.underlying25 hi hz1 Br 0 c _ rfl hown ⟨w5.heap.size, 0, none⟩ 1 1 [.string (rAt R 0)] rfl rfl (new_one _ _ _) hoc (by omega) ?_; intro w6 hown6 hg6)
                    obtain ⟨x1, x2, x3, x4⟩ := HFIN.out w6 hown6 hg6
                    go_roundw
                    case rel => exact ⟨0 + 1, 0 + 1, _, by omega, by omega, by go_num, rfl, by rw [HPV.out], x1, HST.out, x2, x3, x4⟩
                    case measure => simp [intOf]; omega
                  · have hbl : Op.bytesLess (pvAt R n).toList (rAt R n).toList = true := by
                      have hR := HRL.out
                      have e1 : pvAt R n = rAt R (n - 1) := by
                        obtain ⟨q, rfl⟩ : ∃ q, n = q + 1 := ⟨n - 1, by omega⟩
                        rw [pvAt_succ, Nat.mod_eq_of_lt (by omega)]
                        rfl
                      rw [e1]
                      exact rAt_less HRS.out (by omega) (by omega)
                    have hn1 : 0 < n := by omega
                    clear hn0
                    go_wp2_with (at_builtin; refine wpList_append_fits _ rfl _ _ 25 rfl Br 9 i0 1 Try.underlying25 hi hz1 Br n c _ rfl hown ⟨w5.heap.size, 0, none⟩ 1 1 [.string (rAt R n)] rfl rfl (new_one _ _ _) hoc (by omega) ?_; intro w6 hown6 hg6)
                    obtain ⟨x1, x2, x3, x4⟩ := HFIN.out w6 hown6 hg6
                    go_roundw
                    case rel => exact ⟨n + 1, n + 1, _, by omega, by omega, by go_num, rfl, by rw [HPV.out], x1, HST.out, x2, x3, x4⟩
                    case measure => simp [intOf]; omega
                · obtain rfl : n = c := by have := HMN.out; omega
                  have c1 := HD5.out.cell hrlt
                  go_wp2_with fail
                  go_roundw
                  case rel => exact ⟨j + 1, _, _, by omega, by omega, by go_num, rfl, by rw [HPV.out], HW5.out, HST.out, HN5.out, HD5.out, hL5⟩
                  case measure => simp [intOf]; omega
            · obtain rfl : j = kn := by omega
              by_cases hc0 : c = 0
              · subst hc0
                go_wp2_with fail
                go_ret
                exact ⟨rfl, hb⟩
              · have hz : ((c : Int) == 0) = false := beq_eq_false_iff_ne.2 (by omega)
                have hpc : 0 < c := by omega
                have hquo : ((j : Int) / (c : Int)) = ((j / c : Nat) : Int) := (Int.natCast_ediv j c).symm
                have hrem : ((j : Int) % (c : Int)) = ((j % c : Nat) : Int) := (Int.natCast_emod j c).symm
                have hrlt : j % c < c := Nat.mod_lt j hpc
                have hrle : j % c ≤ j := Nat.mod_le j c
                have hqle : j / c ≤ j := Nat.div_le_self j c
                have hgv : ∀ i, gv R.length j i = j / c + (if i < j % c then 1 else 0) := fun i => by rw [HRL.out]; rfl
                generalize j / c = q at *
                generalize j % c = r at *
                have HGV : Hid (∀ i, gv R.length j i = q + (if i < r then 1 else 0)) := hgv
                have HS : Hid (St R j g) := hS
                have HMN : Hid (n = min j c) := hn
                clear hgv hS hc0 hn
                go_wp2_with fail
                try rw [hquo]
                try rw [hrem]
                clear hquo hrem
                go_loopw [20] (fun i wz => ∃ p : Nat, p ≤ k ∧ i = .int .i64 p ∧ Wk wz B kk f c g ∧ NmHeld wz w.heap.size k ss ∧ Round wz Br c n R ∧ Below w.heap.size w wz) (fun i _ => k - (intOf i).toNat)
                case atStart => exact ⟨0, Nat.zero_le _, rfl, hW, hN, hD, hb⟩
                case round =>
                  clear hW hN hD hb
                  obtain ⟨p, hp, rfl, hW, hN, hD, hb⟩ := hrel
                  by_cases hpk : p < k
                  · have ha' := HA.out (by omega)
                    clear HA
                    subst ha'
                    obtain ⟨i, hi, hie⟩ := rAt_of_mem ((HRM.out (nmAt ss p)).2 ⟨p, hpk, rfl⟩)
                    have hgi := HS.out.hat i hi
                    rw [hie, HGV.out] at hgi
                    have c0 := hN.cell HI.out.hlen hpk
                    have f0 : (nmAt ss p).size ≤ maxLen := HI.out.fit p
                    have HWK : Hid (Wk wr B kk f c g) := hW
                    have HN : Hid (NmHeld wr w.heap.size k ss) := hN
                    have HD : Hid (Round wr Br c n R) := hD
                    have HG : Hid (g (nmAt ss p) = some ⟨nmAt ss p, 0, 0, (q + (if i < r then 1 else 0) : Nat)⟩) := hgi
                    clear hW hN hD hgi
                    by_cases hr0 : r = 0
                    · subst hr0
                      rw [if_neg (by omega)] at HG
                      go_wp2_with fail
                      refine (wk_given HWK.out f0 HG.out).mono ?_
                      rintro e wr ⟨rfl, rfl⟩
                      go_wp2_with fail
                      go_quiet (fail)
                      go_wp2_with fail
                      go_roundw
                      case rel =>
                        repeat apply Exists.intro
                        exact ⟨⟨p + 1, by omega, by go_num, HWK.out.drewN _, HN.out, HD.out, below_drewN hb _⟩, rfl⟩
                      case measure => simp [intOf]; omega
                    · obtain ⟨r', rfl⟩ : ∃ r', r = r' + 1 := ⟨r - 1, by omega⟩
                      have hrn : r' < n := by have := HMN.out; omega
                      have c1 := HD.out.cell hrn
                      by_cases hir : i < r' + 1
                      · have hle : (Op.bytesLess (nmAt ss p).toList (rAt R r').toList || (nmAt ss p).toList == (rAt R r').toList) = true := by
                          rw [← hie]
                          rcases Nat.lt_or_ge i r' with h | h
                          · rw [show Op.bytesLess (rAt R i).toList (rAt R r').toList = true from rAt_less HRS.out h (by have := HRL.out; omega)]
                            rfl
                          · obtain rfl : i = r' := by omega
                            simp
                        rw [if_pos hir] at HG
                        clear hr0
                        go_wp2_with fail
                        refine (wk_given HWK.out f0 HG.out).mono ?_
                        rintro e wr ⟨rfl, rfl⟩
                        go_wp2_with fail
                        go_quiet (fail)
                        go_wp2_with fail
                        go_roundw
                        case rel =>
                          repeat apply Exists.intro
                          exact ⟨⟨p + 1, by omega, by go_num, HWK.out.drewN _, HN.out, HD.out, below_drewN hb _⟩, rfl⟩
                        case measure => simp [intOf]; omega
                      · have hle : (Op.bytesLess (nmAt ss p).toList (rAt R r').toList || (nmAt ss p).toList == (rAt R r').toList) = false := by
                          rw [← hie]
                          have h1 : sLess (rAt R r') (rAt R i) = true := rAt_less HRS.out (by omega) hi
                          have h2 := sLess_asymm h1
                          rw [show Op.bytesLess (rAt R i).toList (rAt R r').toList = false from h2, str_ne (fun e => ?_)]
                          · rfl
                          · rw [e, sLess_irrefl] at h1
                            cases h1
                        rw [if_neg hir] at HG
                        clear hr0
                        go_wp2_with fail
                        refine (wk_given HWK.out f0 HG.out).mono ?_
                        rintro e wr ⟨rfl, rfl⟩
                        go_wp2_with fail
                        go_quiet (fail)
                        go_wp2_with fail
                        go_roundw
                        case rel =>
                          repeat apply Exists.intro
                          exact ⟨⟨p + 1, by omega, by go_num, HWK.out.drewN _, HN.out, HD.out, below_drewN hb _⟩, rfl⟩
                        case measure => simp [intOf]; omega
                  · go_wp2_with fail
                    go_ret
                    exact ⟨rfl, hb⟩
end Go.Proofs.Qxb6604668a
