/-
  THE WALK of FnHoldingsAtOneHoldingPerId (4).
-/
import Derived.Test.Qxb6604668aOneBase
import Derived.BigQuiet
import Derived.Deep.QuietTactic
namespace Go.Proofs.Qxb6604668a
open Go.ChangeShapes Go.WideShapes Go.ChangeAt Go.RowKit

set_option maxRecDepth 100000 in
set_option maxHeartbeats 4000000 in
theorem oneWalk (l d s : ByteArray) (n : Int) (a : Option Addr) (len cap : Nat) (ss : List ByteArray) (w : World) (hl : l.size ≤ maxLen) (hd : d.size ≤ maxLen) (hsz : s.size ≤ maxLen) (hI : IsStrs w a len cap ss) :
    Calls Try.prog 4 #[.string l, .string d, .string s, .int .i64 n, .slice a len cap] w fun e w' => e = .returned (.bool true) ∧ Below w.heap.size w w' := by
  have es := eql_same
  have ns := neq_same
  have hmax := hI.hmax
  have hcap := hI.hcap
  have HI : Hid (IsStrs w a len cap ss) := hI
  clear hI
  unfold maxLen at hmax
  go_enter Try.func4, Try.ntmps4
  go_wp2_with fail
  refine (bytes11 l d s n a len cap ss w hl hd hsz HI.out).mono ?_
  rintro e w' ⟨⟨bb, rfl⟩, rfl⟩
  cases bb
  · go_wp2_with fail
    go_ret
    exact ⟨rfl, Below.refl _ _⟩
  unfold maxLen at hl hd hsz
  by_cases h4 : 4096 < len
  · go_wp2_with fail
    go_ret
    exact ⟨rfl, Below.refl _ _⟩
  go_wp2_with fail
  · go_ret
    exact ⟨rfl, Below.refl _ _⟩
  go_loop [11, 12] (fun z i => ∃ (k : Nat) (t : Int), k ≤ len ∧ i = .int .i64 k ∧ z = .int .i64 t) (fun _ i => len - (intOf i).toNat)
  case atStart => exact ⟨0, _, Nat.zero_le _, rfl, rfl⟩
  case round =>
    obtain ⟨k, t, hk, rfl, rfl⟩ := hrel
    by_cases hlt : k < len
    · obtain ⟨b, off, rfl, hc⟩ := HI.out.cells (by omega)
      have hcell := hc k hlt
      have hfk := HI.out.fit k
      unfold maxLen at hfk
      clear hc
      generalize ss.getD k ByteArray.empty = sk at hcell hfk
      go_wp2_with fail
      · go_ret
        exact ⟨rfl, Below.refl _ _⟩
      · go_round
        case rel => exact ⟨k + 1, _, by omega, by go_num, rfl⟩
        case measure => simp [intOf]; omega
    · go_wp2_with fail
      refine (copyStrings a len cap ss _ HI.out (by omega)).mono ?_
      rintro e w1 ⟨a', rfl, hA, b1⟩
      have HA : Hid (0 < len → a' = some ⟨w'.heap.size, 0, none⟩ ∧ w1.heap[w'.heap.size]? = some (.cells (strArr ss) 9 (0, 0))) := hA
      clear hA
      go_wp2_with fail
      refine (hs_made l d s n w1).mono ?_
      rintro e w2 ⟨rfl, h2, b2, z2⟩
      have Z2 : Hid (w2.heap.size = w1.heap.size + 2) := z2
      clear z2
      go_wp2_with (at_make; refine wpList_make_rep _ rfl _ _ 30 rfl 31 _ 8 Try.underlying30 info31 rfl len rfl rfl (by omega) (by unfold maxLen; omega) ?_)
      have hB0 : w'.heap.size ≤ w1.heap.size := b1.size
      have hB1 : w'.heap.size ≤ w2.heap.size := Nat.le_trans b1.size b2.size
      have R0 : Rel w' (w2.alloc (.cells (Array.replicate len (.pointer none)) 31)) w'.heap.size w1.heap.size w2.heap.size len l d s n ss 0 0 (fun _ => none) 0 [] (Array.replicate len (.pointer none)) :=
        { hs := ⟨h2.pm.alloc _, (Below.heap_alloc _ _ _ h2.lt).trans h2.st⟩
          hkk := Nat.le_refl _
          hc := Nat.le_refl _
          xlen := rfl
          hat := fun j hj => absurd hj (Nat.not_lt_zero _)
          hno := fun _ _ => rfl
          got := heap_alloc_new _ _
          gsize := by simp
          gat := fun j hj => absurd hj (Nat.not_lt_zero _)
          held := fun j hj => absurd hj (Nat.not_lt_zero _)
          ids := fun hl => by
            have hh := (HA.out hl).2
            have hlt := lt_of_block hh
            have := Z2.out
            exact (Below.heap_alloc _ _ _ (by omega)).trans ((b2.block _ hlt).trans hh)
          bel := (b1.trans (b2.mono hB0)).alloc hB1 _ }
      clear h2 b1 b2
      generalize w2.alloc (.cells (Array.replicate len (.pointer none)) 31) = wx at R0
      generalize hBg : w2.heap.size = Bg at *
      generalize hB : w1.heap.size = B at *
      clear hBg hB Z2
      go_loopw [15, 16] (fun c i wr => ∃ (k c' : Nat) (f : ByteArray → Option Nat) (kk : Nat) (xs : List Nat) (gs : Array Value), k ≤ len ∧ i = .int .i64 k ∧ c = .int .i64 c' ∧ Rel w' wr w'.heap.size B Bg len l d s n ss k c' f kk xs gs) (fun _ i _ => len - (intOf i).toNat)
      case atStart => exact ⟨0, 0, _, _, _, _, Nat.zero_le _, rfl, rfl, R0⟩
      case round =>
        clear R0
        obtain ⟨k, c, f, kk, xs, gs, hk, rfl, rfl, R⟩ := hrel
        by_cases hlt : k < len
        · obtain ⟨ha', _⟩ := HA.out (by omega)
          have ha2 := ha'
          clear HA
          subst ha2
          clear ha'
          have hidk := R.cellIds (j := k) (by rw [HI.out.hlen]; exact hlt) (by omega)
          have hfit : (idAt ss k).size ≤ maxLen := HI.out.fit k
          obtain ⟨vk, hcv⟩ := cell_some (i := k) R.got (by rw [R.gsize]; exact hlt)
          have hfr := free_in (i := k) R.got
          cases hf : f (idAt ss k) with
          | some x =>
            have HF : Hid (f (idAt ss k) = some x) := hf
            clear hf
            go_wp2_with fail
            refine (hs_old R.hs hfit HF.out).mono ?_
            rintro e wr ⟨rfl, rfl⟩
            go_wp2_with fail
            have R' := R.old hlt hB1 HF.out
            have HX : Hid (∃ j, j < k ∧ idAt ss j = idAt ss k) := Classical.byContradiction fun hn => by
              have h := R.hno (idAt ss k) (fun j hj e => hn ⟨j, hj, e⟩)
              rw [HF.out] at h
              cases h
            have HQ : Hid (∀ q, q < k → idAt ss q = idAt ss k → xs.getD q 0 = x) := fun q hq e => by
              have h := R.hat q hq
              rw [e, HF.out] at h
              exact (Option.some.inj h).symm
            have HXL : Hid (xs.length = k) := R.xlen
            clear R hcv hfr hidk
            generalize (wr.setCell ⟨Bg, k, none⟩ (.pointer (some ⟨x, 0, none⟩))) = W at R' ⊢
            go_loopw [18, 19] (fun fi j wz => ∃ (q m : Nat), q ≤ k ∧ j = .int .i64 q ∧ fi = .int .i64 k ∧ wz = W.drewN m ∧ ∀ i, i < q → idAt ss i ≠ idAt ss k) (fun _ j _ => k - (intOf j).toNat)
            case atStart => exact ⟨0, 0, Nat.zero_le _, rfl, rfl, rfl, fun i hi => absurd hi (Nat.not_lt_zero _)⟩
            case round =>
              obtain ⟨q, m, hq, rfl, rfl, rfl, hne⟩ := hrel
              by_cases hqk : q < k
              · have c1 := R'.cellIds (j := q) (by rw [HI.out.hlen]; omega) (by omega)
                have c2 := R'.cellIds (j := k) (by rw [HI.out.hlen]; omega) (by omega)
                have HN : Hid (∀ i, i < q → idAt ss i ≠ idAt ss k) := hne
                clear hne
                by_cases heq : idAt ss q = idAt ss k
                · have hb : ((idAt ss q).toList == (idAt ss k).toList) = true := by rw [heq]; exact beq_self_eq_true _
                  have c3 : W.cell? ⟨Bg, q, none⟩ = some (.pointer (some ⟨x, 0, none⟩)) := by
                    rw [R'.cellGot (j := q) (by omega), getD_snoc_lt _ _ (by rw [HXL.out]; exact hqk), HQ.out q hqk heq]
                  clear heq
                  go_wp2_with fail
                  go_quiet (fail)
                  go_wp2_with fail
                  refine (hs_len (R'.hs.drewN _)).mono ?_
                  rintro e w5 ⟨rfl, rfl⟩
                  go_wp2_with fail
                  go_roundw
                  case rel => exact ⟨k + 1, c, f, kk, _, _, by omega, by go_num, rfl, R'.drewN _⟩
                  case measure => simp [intOf]; omega
                · have hb := str_ne heq
                  have HE : Hid (idAt ss q ≠ idAt ss k) := heq
                  clear heq
                  go_wp2_with fail
                  go_quiet (fail)
                  go_wp2_with fail
                  go_roundw
                  case rel =>
                    refine ⟨q + 1, _, by omega, by go_num, rfl, rfl, fun i hi => ?_⟩
                    rcases Nat.lt_or_ge i q with h | h
                    · exact HN.out i h
                    · obtain rfl : i = q := by omega
                      exact HE.out
                  case measure => simp [intOf]; omega
              · exfalso
                obtain ⟨j, hj, e⟩ := HX.out
                exact hne j (by omega) e
          | none =>
            have HF : Hid (f (idAt ss k) = none) := hf
            clear hf
            have HN0 : Hid (∀ j, j < k → idAt ss j ≠ idAt ss k) := fun j hj e => by
              have h := R.hat j hj
              rw [e, HF.out] at h
              cases h
            go_wp2_with fail
            refine (hs_new R.hs hfit (by have := R.hkk; unfold maxLen; omega) HF.out).mono ?_
            rintro e w5 ⟨rfl, h5, n5⟩
            have hcv5 : w5.cell? ⟨Bg, k, none⟩ = some vk := (World.cell?_of_block (n5.old Bg (lt_of_block R.got) R.apart.1)).trans hcv
            have hfr5 : w5.frozen? ⟨Bg, k, none⟩ = false := (World.frozen?_of_block (n5.old Bg (lt_of_block R.got) R.apart.1)).trans hfr
            have hk5 := n5.size
            go_wp2_with fail
            have R' := R.new hlt hB1 hB0 n5 h5 HN0.out
            have HY : Hid (∀ j, j < k → xs.getD j 0 ≠ wr.heap.size) := fun j hj e => by
              have h := lt_of_block (R.held j hj)
              omega
            have HXL : Hid (xs.length = k) := R.xlen
            clear R hcv hfr hidk hcv5 hfr5 h5 n5 hk5 HF
            generalize (w5.setCell ⟨Bg, k, none⟩ (.pointer (some ⟨wr.heap.size, 0, none⟩))) = W at R' ⊢
            go_loopw [18, 19] (fun fi j wz => ∃ (q m : Nat), q ≤ k ∧ j = .int .i64 q ∧ fi = .int .i64 k ∧ wz = W.drewN m) (fun _ j _ => k - (intOf j).toNat)
            case atStart => exact ⟨0, 0, Nat.zero_le _, rfl, rfl, rfl⟩
            case round =>
              obtain ⟨q, m, hq, rfl, rfl, rfl⟩ := hrel
              by_cases hqk : q < k
              · have c1 := R'.cellIds (j := q) (by rw [HI.out.hlen]; omega) (by omega)
                have c2 := R'.cellIds (j := k) (by rw [HI.out.hlen]; omega) (by omega)
                have hb := str_ne (HN0.out q hqk)
                go_wp2_with fail
                go_quiet (fail)
                go_wp2_with fail
                go_roundw
                case rel => exact ⟨q + 1, _, by omega, by go_num, rfl, rfl⟩
                case measure => simp [intOf]; omega
              · have hcb : c ≤ 4096 := by have := R'.hc; omega
                have e1 : W.heap[wr.heap.size]? = some emptyHolding := by
                  have h := R'.held k (by omega)
                  have h' := getD_snoc_eq (xs := xs) wr.heap.size 0
                  rw [HXL.out] at h'
                  rwa [h'] at h
                have E1 : Hid (W.heap[wr.heap.size]? = some emptyHolding) := e1
                clear e1
                go_wp2_with fail
                go_loop [20] (fun j => ∃ p : Nat, p ≤ k ∧ j = .int .i64 p) (fun j => k - (intOf j).toNat)
                case atStart => exact ⟨0, Nat.zero_le _, rfl⟩
                case round =>
                  obtain ⟨p, hp, rfl⟩ := hrel
                  by_cases hpk : p < k
                  · have c1 := R'.cellGot (j := p) (by omega)
                    rw [getD_snoc_lt _ _ (by rw [HXL.out]; exact hpk)] at c1
                    have h2 := R'.held p (by omega)
                    rw [getD_snoc_lt _ _ (by rw [HXL.out]; exact hpk)] at h2
                    have hne := eql_other (w := W.drewN m) (HY.out p hpk) h2 E1.out
                    clear h2
                    generalize xs.getD p 0 = xp at c1 hne
                    go_wp2_with fail
                    go_round
                    case rel => exact ⟨p + 1, by omega, by go_num⟩
                    case measure => simp [intOf]; omega
                  · go_wp2_with fail
                    refine (holdingIs _ false false ByteArray.empty 0 ByteArray.empty 0 0 _ (by exact E1.out)).mono ?_
                    rintro e w6 ⟨rfl, m2, rfl⟩
                    go_wp2_with fail
                    refine (hs_len (R'.hs.drewN _)).mono ?_
                    rintro e w6 ⟨rfl, rfl⟩
                    go_wp2_with fail
                    go_roundw
                    case rel => exact ⟨k + 1, c + 1, _, _, _, _, by omega, by go_num, by go_num, R'.drewN _⟩
                    case measure => simp [intOf]; omega
        · obtain rfl : k = len := by omega
          go_wp2_with fail
          go_loopw [21] (fun j wz => ∃ q : Nat, q ≤ k ∧ j = .int .i64 q ∧ Rel w' wz w'.heap.size B Bg k l d s n ss k c f kk xs gs) (fun j _ => k - (intOf j).toNat)
          case atStart => exact ⟨0, Nat.zero_le _, rfl, R⟩
          case round =>
            clear R
            obtain ⟨q, hq, rfl, R⟩ := hrel
            by_cases hqk : q < k
            · obtain ⟨ha', _⟩ := HA.out (by omega)
              have ha2 := ha'
              clear HA
              subst ha2
              clear ha'
              have c1 := R.cellIds (j := q) (by rw [HI.out.hlen]; omega) (by omega)
              have c2 := R.cellGot hqk
              have hfit : (idAt ss q).size ≤ maxLen := HI.out.fit q
              have HAT : Hid (ptrOf (f (idAt ss q)) = .pointer (some ⟨xs.getD q 0, 0, none⟩)) := show ptrOf (f (idAt ss q)) = _ by rw [R.hat q hqk]; rfl
              generalize xs.getD q 0 = xq at c2 HAT
              go_wp2_with fail
              have hct : ∀ nq, Calls Try.prog 17 #[.pointer (some ⟨B + 1, 0, none⟩), .string (idAt ss q)] (wr.drewN nq) fun e w' => e = .returned (.pointer (some ⟨xq, 0, none⟩)) ∧ w' = wr.drewN nq := fun nq => by
                have h := hs_task (R.hs.drewN nq) hfit
                rw [HAT.out] at h
                exact h
              have HCT : Hid (∀ nq, Calls Try.prog 17 #[.pointer (some ⟨B + 1, 0, none⟩), .string (idAt ss q)] (wr.drewN nq) fun e w' => e = .returned (.pointer (some ⟨xq, 0, none⟩)) ∧ w' = wr.drewN nq) := hct
              clear hct
              go_quiet ((go_at_call 17; exact Calls.quiet_of_same (HCT.out _)))
              go_wp2_with fail
              go_roundw
              case rel => exact ⟨q + 1, by omega, by go_num, R.drewN _⟩
              case measure => simp [intOf]; omega
            · go_wp2_with fail
              refine (holdingsFields R.hs).mono ?_
              rintro e w6 ⟨rfl, m2, rfl⟩
              go_wp2_with fail
              go_ret
              exact ⟨rfl, below_drewN R.bel _⟩
end Go.Proofs.Qxb6604668a
