/-
  THE PROOF OF 'Rows.FnValueIsWindowOfFlatRoomsSaid': the guide's frame for this function's types; the walk is ours.
-/
import Derived.Test.Qxb6602636aRows
import Derived.WalkKit
import Derived.ProofKit
import Derived.OpenShut
import Derived.ShutString
import Derived.Test.Qxb6602636aFlat
import Derived.ChangeOld
import Derived.Below
namespace Go.Proofs.Qxb6602636a.fnValueIsWindowOfFlatRooms
open Go.ChangeShapes Go.WideShapes Go.ChangeAt Go.RowKit
open Go.ChangeMaps (open_string shut_string)
set_option linter.unusedVariables false

theorem own : ownKnob Try.prog.godebug = none := by kernel_rfl
theorem laidOut : laidOutB Try.prog = true := by kernel_rfl

/-- WHAT THE WALK IS TOLD OF A SLICE OF INTEGERS THAT CAME IN: it is nil; or it leads to a row of 'cap' cells, the numbers 'zs' (the first 'len' are its elements, the rest its spare room), each fitting its kind. -/
def IsRow (k : IntKind) (w : World) (a : Option Addr) (len cap : Nat) (zs : List Int) : Prop :=
  (a = none ∧ len = 0 ∧ cap = 0 ∧ zs = []) ∨
  ∃ x, a = some x ∧ len ≤ cap ∧ cap ≤ maxLen ∧ zs.length = cap ∧ (∀ i, i < zs.length → w.cell? (x.add i) = some (.int k (zs.getD i 0))) ∧ ∀ n ∈ zs, (Lit.int k n).wf = true

/-- from the frame's word on a slice that came in to ours -/
theorem isB_of {w : World} {a : Option Addr} {len cap : Nat} {zs : List Int} (h : IsRow .u8 w a len cap zs) : IsB w a len cap (fun i => zs.getD i 0) := by
  rcases h with ⟨rfl, rfl, rfl, rfl⟩ | ⟨x, rfl, hl, hm, hz, hc, _⟩
  · exact ⟨fun _ => ⟨rfl, rfl⟩, fun h => absurd h (Nat.lt_irrefl _), Nat.le_refl _, Nat.zero_le _⟩
  · refine ⟨(fun h => by cases h), fun hp => ?_, hl, hm⟩
    obtain ⟨b, off, rfl, hc'⟩ := ints_at hc (by omega)
    exact ⟨b, off, rfl, fun j hj => hc' j (by omega)⟩

set_option maxRecDepth 100000 in
set_option maxHeartbeats 8000000 in
theorem walkB (a0 : Int) (a1 : Int) (a2 : Option Addr) (len2 cap2 : Nat) (z2 : Nat → Int) (a3 : Option Addr) (len3 cap3 : Nat) (z3 : Nat → Int) (a4 : Int) (w : World) (h1 : a1 ≤ 9223372036854775807) (h4 : a4 ≤ 2147483647) (h2 : IsB w a2 len2 cap2 z2) (h3 : IsB w a3 len3 cap3 z3) :
    Calls Try.prog 5 #[.int .i64 a0, .int .i64 a1, .slice a2 len2 cap2, .slice a3 len3 cap3, .int .i32 a4] w fun e w' => e = .returned (.bool true) ∧ Below w.heap.size w w' := by
  have H2 : Hid (IsB w a2 len2 cap2 z2) := h2
  have H3 : Hid (IsB w a3 len3 cap3 z3) := h3
  have m2 : len2 ≤ 9223372036854775807 := Nat.le_trans h2.hcap h2.hmax
  have m3 : len3 ≤ 9223372036854775807 := Nat.le_trans h3.hcap h3.hmax
  have k2 := h2.hcap
  have k3 := h3.hcap
  have n2 := h2.hmax
  have n3 := h3.hmax
  unfold maxLen at n2 n3
  clear h2 h3
  go_enter Try.func5, Try.ntmps5
  go_wp2_with fail
  refine (bytes9 a0 a1 a2 a3 len2 cap2 len3 cap3 a4 w (by unfold maxLen; omega) (by unfold maxLen; omega)).mono ?_
  rintro e w ⟨⟨bb, rfl⟩, rfl⟩
  cases bb
  · go_wp2_with fail
    go_ret
    exact ⟨rfl, Below.refl _ _⟩
  by_cases p2 : 1048576 < len2
  · go_wp2_with fail
    go_ret
    exact ⟨rfl, Below.refl _ _⟩
  by_cases p3 : 1048576 < len3
  · go_wp2_with fail
    go_ret
    exact ⟨rfl, Below.refl _ _⟩
  by_cases p4 : 1048576 < len2 + len3
  · go_wp2_with fail
    go_ret
    exact ⟨rfl, Below.refl _ _⟩
  by_cases p5 : a0 < 0
  · go_wp2_with fail
    go_ret
    exact ⟨rfl, Below.refl _ _⟩
  by_cases p6 : 1048576 < a0
  · go_wp2_with fail
    go_ret
    exact ⟨rfl, Below.refl _ _⟩
  by_cases p7 : a1 < 0
  · go_wp2_with fail
    go_ret
    exact ⟨rfl, Below.refl _ _⟩
  by_cases p8 : a4 < 0
  · go_wp2_with fail
    go_ret
    exact ⟨rfl, Below.refl _ _⟩
  obtain ⟨t, rfl⟩ : ∃ t : Nat, a0 = t := ⟨a0.toNat, by omega⟩
  obtain ⟨rec, rfl⟩ : ∃ rec : Nat, a1 = rec := ⟨a1.toNat, by omega⟩
  obtain ⟨r, rfl⟩ : ∃ r : Nat, a4 = r := ⟨a4.toNat, by omega⟩
  have eQ2 : ((len2 : Int) / (t : Int)) = ((len2 / t : Nat) : Int) := (Int.natCast_ediv len2 t).symm
  have HQ2 : Hid (len2 / t * t ≤ len2) := Nat.div_mul_le_self len2 t
  have hQ2l : len2 / t ≤ len2 := Nat.div_le_self len2 t
  generalize len2 / t = Q2 at *
  by_cases p9 : 0 < t ∧ Q2 < rec
  · obtain ⟨p10, p11⟩ := p9
    go_wp2_with fail
    go_ret
    exact ⟨rfl, Below.refl _ _⟩
  obtain ⟨F, hF⟩ : ∃ F, F = rec * t := ⟨_, rfl⟩
  obtain ⟨S, hS⟩ : ∃ S, S = r * t := ⟨_, rfl⟩
  have eF : (rec : Int) * (t : Int) = (F : Int) := by rw [hF]; exact (Int.natCast_mul rec t).symm
  have eS : (r : Int) * (t : Int) = (S : Int) := by rw [hS]; exact (Int.natCast_mul r t).symm
  have hF2 : F ≤ len2 := by
    rw [hF]
    rcases Nat.eq_zero_or_pos t with h | h
    · rw [h, Nat.mul_zero]; exact Nat.zero_le _
    · exact Nat.le_trans (Nat.mul_le_mul_right t (by omega)) HQ2.out
  have hSb : S ≤ 2251799813685248 := by
    rw [hS]
    exact Nat.le_trans (Nat.mul_le_mul (show r ≤ 2147483648 by omega) (show t ≤ 1048576 by omega)) (by decide)
  have HF : Hid (F = rec * t) := hF
  have HS : Hid (S = r * t) := hS
  clear hF hS
  by_cases p12 : F + len3 < S + t
  · by_cases p13 : 0 < t
    · have p14 : ¬ Q2 < rec := fun h => p9 ⟨p13, h⟩
      clear p9
      go_wp2_with fail
      go_ret
      exact ⟨rfl, Below.refl _ _⟩
    · clear p9
      go_wp2_with fail
      go_ret
      exact ⟨rfl, Below.refl _ _⟩
  have hle : S + t ≤ F + len3 := by omega
  by_cases p13 : 0 < t
  · have p14 : ¬ Q2 < rec := fun h => p9 ⟨p13, h⟩
    clear p9
    go_wp2_with fail
    refine (clone a2 len2 cap2 z2 w H2.out (by omega)).mono ?_
    rintro e w1 ⟨sa, rfl, sn, ss, sb, b1⟩
    have HSA : Hid (0 < len2 → sa = some ⟨w.heap.size, 0, none⟩) := fun h => ss (fun e => by have := sn e; omega)
    have hR1 : Room w1 w.heap.size len2 z2 := sb
    clear sn ss sb
    go_wp2_with fail
    refine (clone a3 len3 cap3 z3 w1 (H3.out.below b1 (Nat.le_refl _)) (by omega)).mono ?_
    rintro e w2 ⟨za, rfl, zn, zs, zb, b2⟩
    have HZA : Hid (0 < len3 → za = some ⟨w1.heap.size, 0, none⟩) := fun h => zs (fun e => by have := zn e; omega)
    have hR2 : Room w2 w1.heap.size len3 z3 := zb
    have hR1' := hR1.later b2
    have hL2 : Below w.heap.size w w2 := b1.trans (b2.mono b1.size)
    have HNE : Hid (0 < len2 → w.heap.size ≠ w1.heap.size) := fun h => by have := (hR1 h).lt; omega
    have hsz : w.heap.size ≤ w1.heap.size := b1.size
    clear zn zs zb hR1 b1 b2
    generalize w1.heap.size = Bz at *
    have HR : Hid (Lies w.heap.size Bz len2 len3 F S z2 z3 0 w2) := Lies.start hR1' hR2
    obtain ⟨ga, B', L, hWin⟩ := window w.heap.size Bz len2 len3 t rec r F S z2 z3 sa za (by omega) (by omega) HF.out HS.out hF2 (by omega) (by omega) HSA.out HZA.out HNE.out hsz
    have HWn : Hid (Win w.heap.size t (fun a => ∀ w, Calls Try.prog 11 #[.int .i64 t, .int .i64 rec, .slice sa len2 len2, .slice za len3 len3, .int .i32 r] w (Row w (.slice a t t))) (fun q => flat F z2 z3 (S + q)) (Lies w.heap.size Bz len2 len3 F S z2 z3) ga B' L) := hWin
    clear hR1' hR2 hWin
    go_wp2_with fail
    refine (HWn.out.call w2).mono ?_
    rintro e w3 ⟨rfl, b3⟩
    have HL : Hid (Lies w.heap.size Bz len2 len3 F S z2 z3 0 w3) := HR.out.later b3
    have hb3 : Below w.heap.size w w3 := hL2.trans (b3.mono hL2.size)
    clear HR b3 hL2
    go_wp2_with fail
    go_loopw [18] (fun i wr => ∃ k : Nat, k ≤ t ∧ i = .int .i64 k ∧ Hid (Lies w.heap.size Bz len2 len3 F S z2 z3 0 wr) ∧ Below w.heap.size w wr) (fun i _ => t - (intOf i).toNat)
    case atStart => exact ⟨0, Nat.zero_le _, rfl, HL, hb3⟩
    case round =>
      obtain ⟨k, hk, rfl, hI, hb⟩ := hrel
      by_cases hkt : k < t
      · have hga := HWn.out.addr (by omega)
        subst hga
        have c : wr.cell? ⟨B', L + k, none⟩ = some (.int .u8 (flat F z2 z3 (S + k))) := HWn.out.read k wr hkt hI.out
        have hct : ∀ nq, Calls Try.prog 12 #[.slice a2 len2 cap2, .slice a3 len3 cap3, .int .i64 F, .int .i64 ((S : Int) + (k : Int))] (wr.drewN nq) fun e w' => e = .returned (.int .u8 (flat F z2 z3 (S + k))) ∧ w' = wr.drewN nq := fun nq => by
          rw [← Int.natCast_add]
          exact flatAt a2 a3 len2 cap2 len3 cap3 F (S + k) z2 z3 (wr.drewN nq) (H2.out.below (below_drewN hb nq) (Nat.le_refl _)) (H3.out.below (below_drewN hb nq) (Nat.le_refl _)) hF2 (by omega) (by omega)
        have HCT : Hid (∀ nq, Calls Try.prog 12 #[.slice a2 len2 cap2, .slice a3 len3 cap3, .int .i64 F, .int .i64 ((S : Int) + (k : Int))] (wr.drewN nq) fun e w' => e = .returned (.int .u8 (flat F z2 z3 (S + k))) ∧ w' = wr.drewN nq) := hct
        clear hct
        generalize flat F z2 z3 (S + k) = fv at c HCT
        have hwr : IntKind.i64.wrap ((S : Int) + (k : Int)) = (S : Int) + (k : Int) := by
          simp [IntKind.wrap, IntKind.signed, IntKind.bits]
          omega
        go_wp2_with fail
        go_quiet ((go_at_call 12; exact Calls.quiet_of_same (HCT.out _)))
        go_wp2_with fail
        go_roundw
        case rel => exact ⟨k + 1, by omega, by go_num, hI.out.drewN _, below_drewN hb _⟩
        case measure => simp [intOf]; omega
      · obtain rfl : k = t := by omega
        go_wp2_with fail
        go_loopw [19] (fun i wr => ∃ q : Nat, q ≤ k ∧ i = .int .i64 q ∧ Hid (Lies w.heap.size Bz len2 len3 F S z2 z3 q wr) ∧ Below w.heap.size w wr) (fun i _ => k - (intOf i).toNat)
        case atStart => exact ⟨0, Nat.zero_le _, rfl, hI, hb⟩
        case round =>
          clear hI hb
          obtain ⟨q, hq, rfl, hI, hb⟩ := hrel
          by_cases hqt : q < k
          · have hga := HWn.out.addr (by omega)
            subst hga
            obtain ⟨v, hc, hf, hI'⟩ := HWn.out.step q _ hqt hI.out
            have HI' : Hid (Lies w.heap.size Bz len2 len3 F S z2 z3 (q + 1) (wr.setCell ⟨B', L + q, none⟩ (.int .u8 (IntKind.u8.wrap (v + 1))))) := hI'
            clear hI' hI
            go_wp2
            go_roundw
            case rel => exact ⟨q + 1, by omega, by go_num, HI', hb.setCell HWn.out.above _⟩
            case measure => simp [intOf]; omega
          · obtain rfl : q = k := by omega
            have HX : Hid (∀ j, j < len2 → ∃ b off, a2 = some ⟨b, off, none⟩ ∧ sa = some ⟨w.heap.size, 0, none⟩ ∧ wr.cell? ⟨b, off + j, none⟩ = some (.int .u8 (z2 j)) ∧ wr.cell? ⟨w.heap.size, j, none⟩ = some (.int .u8 (upFront F S z2 q j))) := fun j hj => by
              obtain ⟨b, off, e, hc⟩ := (H2.out.below hb (Nat.le_refl _)).cells (by omega)
              exact ⟨b, off, e, HSA.out (by omega), hc j hj, (hI.out.1 (by omega)).cell hj⟩
            have HY : Hid (∀ j, j < len3 → ∃ b off, a3 = some ⟨b, off, none⟩ ∧ za = some ⟨Bz, 0, none⟩ ∧ wr.cell? ⟨b, off + j, none⟩ = some (.int .u8 (z3 j)) ∧ wr.cell? ⟨Bz, j, none⟩ = some (.int .u8 (upBack F S z3 q j))) := fun j hj => by
              obtain ⟨b, off, e, hc⟩ := (H3.out.below hb (Nat.le_refl _)).cells (by omega)
              exact ⟨b, off, e, HZA.out (by omega), hc j hj, (hI.out.2 (by omega)).cell hj⟩
            clear hI HSA HZA HWn H2 H3
            go_wp2_with fail
            go_loop [20] (fun i => ∃ j : Nat, j ≤ len2 ∧ i = .int .i64 j) (fun i => len2 - (intOf i).toNat)
            case atStart => exact ⟨0, Nat.zero_le _, rfl⟩
            case round =>
              obtain ⟨j, hj, rfl⟩ := hrel
              by_cases hjt : j < len2
              · obtain ⟨b, off, rfl, rfl, c1, c2⟩ := HX.out j hjt
                by_cases g1 : j < F
                · by_cases g2 : S ≤ j
                  · by_cases g3 : j < S + q
                    · rw [upFront_in ⟨g1, g2, g3⟩] at c2
                      go_wp2
                      go_round
                      case rel => exact ⟨j + 1, by omega, by go_num⟩
                      case measure => simp [intOf]; omega
                    · rw [upFront_out (by omega)] at c2
                      go_wp2
                      go_round
                      case rel => exact ⟨j + 1, by omega, by go_num⟩
                      case measure => simp [intOf]; omega
                  · rw [upFront_out (by omega)] at c2
                    go_wp2
                    go_round
                    case rel => exact ⟨j + 1, by omega, by go_num⟩
                    case measure => simp [intOf]; omega
                · rw [upFront_out (by omega)] at c2
                  go_wp2
                  go_round
                  case rel => exact ⟨j + 1, by omega, by go_num⟩
                  case measure => simp [intOf]; omega
              · obtain rfl : j = len2 := by omega
                go_wp2_with fail
                go_loop [23] (fun i => ∃ j : Nat, j ≤ len3 ∧ i = .int .i64 j) (fun i => len3 - (intOf i).toNat)
                case atStart => exact ⟨0, Nat.zero_le _, rfl⟩
                case round =>
                  obtain ⟨i, hi, rfl⟩ := hrel
                  by_cases hit : i < len3
                  · obtain ⟨b, off, rfl, rfl, c1, c2⟩ := HY.out i hit
                    by_cases g2 : S ≤ F + i
                    · by_cases g3 : F + i < S + q
                      · rw [upBack_in ⟨g2, g3⟩] at c2
                        go_wp2
                        go_round
                        case rel => exact ⟨i + 1, by omega, by go_num⟩
                        case measure => simp [intOf]; omega
                      · rw [upBack_out (by omega)] at c2
                        go_wp2
                        go_round
                        case rel => exact ⟨i + 1, by omega, by go_num⟩
                        case measure => simp [intOf]; omega
                    · rw [upBack_out (by omega)] at c2
                      go_wp2
                      go_round
                      case rel => exact ⟨i + 1, by omega, by go_num⟩
                      case measure => simp [intOf]; omega
                  · obtain rfl : i = len3 := by omega
                    go_wp2
                    go_ret
                    exact ⟨rfl, hb⟩
  · clear p9
    go_wp2_with fail
    refine (clone a2 len2 cap2 z2 w H2.out (by omega)).mono ?_
    rintro e w1 ⟨sa, rfl, sn, ss, sb, b1⟩
    have HSA : Hid (0 < len2 → sa = some ⟨w.heap.size, 0, none⟩) := fun h => ss (fun e => by have := sn e; omega)
    have hR1 : Room w1 w.heap.size len2 z2 := sb
    clear sn ss sb
    go_wp2_with fail
    refine (clone a3 len3 cap3 z3 w1 (H3.out.below b1 (Nat.le_refl _)) (by omega)).mono ?_
    rintro e w2 ⟨za, rfl, zn, zs, zb, b2⟩
    have HZA : Hid (0 < len3 → za = some ⟨w1.heap.size, 0, none⟩) := fun h => zs (fun e => by have := zn e; omega)
    have hR2 : Room w2 w1.heap.size len3 z3 := zb
    have hR1' := hR1.later b2
    have hL2 : Below w.heap.size w w2 := b1.trans (b2.mono b1.size)
    have HNE : Hid (0 < len2 → w.heap.size ≠ w1.heap.size) := fun h => by have := (hR1 h).lt; omega
    have hsz : w.heap.size ≤ w1.heap.size := b1.size
    clear zn zs zb hR1 b1 b2
    generalize w1.heap.size = Bz at *
    have HR : Hid (Lies w.heap.size Bz len2 len3 F S z2 z3 0 w2) := Lies.start hR1' hR2
    obtain ⟨ga, B', L, hWin⟩ := window w.heap.size Bz len2 len3 t rec r F S z2 z3 sa za (by omega) (by omega) HF.out HS.out hF2 (by omega) (by omega) HSA.out HZA.out HNE.out hsz
    have HWn : Hid (Win w.heap.size t (fun a => ∀ w, Calls Try.prog 11 #[.int .i64 t, .int .i64 rec, .slice sa len2 len2, .slice za len3 len3, .int .i32 r] w (Row w (.slice a t t))) (fun q => flat F z2 z3 (S + q)) (Lies w.heap.size Bz len2 len3 F S z2 z3) ga B' L) := hWin
    clear hR1' hR2 hWin
    go_wp2_with fail
    refine (HWn.out.call w2).mono ?_
    rintro e w3 ⟨rfl, b3⟩
    have HL : Hid (Lies w.heap.size Bz len2 len3 F S z2 z3 0 w3) := HR.out.later b3
    have hb3 : Below w.heap.size w w3 := hL2.trans (b3.mono hL2.size)
    clear HR b3 hL2
    go_wp2_with fail
    go_loopw [18] (fun i wr => ∃ k : Nat, k ≤ t ∧ i = .int .i64 k ∧ Hid (Lies w.heap.size Bz len2 len3 F S z2 z3 0 wr) ∧ Below w.heap.size w wr) (fun i _ => t - (intOf i).toNat)
    case atStart => exact ⟨0, Nat.zero_le _, rfl, HL, hb3⟩
    case round =>
      obtain ⟨k, hk, rfl, hI, hb⟩ := hrel
      by_cases hkt : k < t
      · exfalso; omega
      · obtain rfl : k = t := by omega
        go_wp2_with fail
        go_loopw [19] (fun i wr => ∃ q : Nat, q ≤ k ∧ i = .int .i64 q ∧ Hid (Lies w.heap.size Bz len2 len3 F S z2 z3 q wr) ∧ Below w.heap.size w wr) (fun i _ => k - (intOf i).toNat)
        case atStart => exact ⟨0, Nat.zero_le _, rfl, hI, hb⟩
        case round =>
          clear hI hb
          obtain ⟨q, hq, rfl, hI, hb⟩ := hrel
          by_cases hqt : q < k
          · exfalso; omega
          · obtain rfl : q = k := by omega
            have HX : Hid (∀ j, j < len2 → ∃ b off, a2 = some ⟨b, off, none⟩ ∧ sa = some ⟨w.heap.size, 0, none⟩ ∧ wr.cell? ⟨b, off + j, none⟩ = some (.int .u8 (z2 j)) ∧ wr.cell? ⟨w.heap.size, j, none⟩ = some (.int .u8 (upFront F S z2 q j))) := fun j hj => by
              obtain ⟨b, off, e, hc⟩ := (H2.out.below hb (Nat.le_refl _)).cells (by omega)
              exact ⟨b, off, e, HSA.out (by omega), hc j hj, (hI.out.1 (by omega)).cell hj⟩
            have HY : Hid (∀ j, j < len3 → ∃ b off, a3 = some ⟨b, off, none⟩ ∧ za = some ⟨Bz, 0, none⟩ ∧ wr.cell? ⟨b, off + j, none⟩ = some (.int .u8 (z3 j)) ∧ wr.cell? ⟨Bz, j, none⟩ = some (.int .u8 (upBack F S z3 q j))) := fun j hj => by
              obtain ⟨b, off, e, hc⟩ := (H3.out.below hb (Nat.le_refl _)).cells (by omega)
              exact ⟨b, off, e, HZA.out (by omega), hc j hj, (hI.out.2 (by omega)).cell hj⟩
            clear hI HSA HZA HWn H2 H3
            go_wp2_with fail
            go_loop [20] (fun i => ∃ j : Nat, j ≤ len2 ∧ i = .int .i64 j) (fun i => len2 - (intOf i).toNat)
            case atStart => exact ⟨0, Nat.zero_le _, rfl⟩
            case round =>
              obtain ⟨j, hj, rfl⟩ := hrel
              by_cases hjt : j < len2
              · obtain ⟨b, off, rfl, rfl, c1, c2⟩ := HX.out j hjt
                by_cases g1 : j < F
                · by_cases g2 : S ≤ j
                  · by_cases g3 : j < S + q
                    · exfalso; omega
                    · rw [upFront_out (by omega)] at c2
                      go_wp2
                      go_round
                      case rel => exact ⟨j + 1, by omega, by go_num⟩
                      case measure => simp [intOf]; omega
                  · rw [upFront_out (by omega)] at c2
                    go_wp2
                    go_round
                    case rel => exact ⟨j + 1, by omega, by go_num⟩
                    case measure => simp [intOf]; omega
                · rw [upFront_out (by omega)] at c2
                  go_wp2
                  go_round
                  case rel => exact ⟨j + 1, by omega, by go_num⟩
                  case measure => simp [intOf]; omega
              · obtain rfl : j = len2 := by omega
                go_wp2_with fail
                go_loop [23] (fun i => ∃ j : Nat, j ≤ len3 ∧ i = .int .i64 j) (fun i => len3 - (intOf i).toNat)
                case atStart => exact ⟨0, Nat.zero_le _, rfl⟩
                case round =>
                  obtain ⟨i, hi, rfl⟩ := hrel
                  by_cases hit : i < len3
                  · obtain ⟨b, off, rfl, rfl, c1, c2⟩ := HY.out i hit
                    by_cases g2 : S ≤ F + i
                    · by_cases g3 : F + i < S + q
                      · exfalso; omega
                      · rw [upBack_out (by omega)] at c2
                        go_wp2
                        go_round
                        case rel => exact ⟨i + 1, by omega, by go_num⟩
                        case measure => simp [intOf]; omega
                    · rw [upBack_out (by omega)] at c2
                      go_wp2
                      go_round
                      case rel => exact ⟨i + 1, by omega, by go_num⟩
                      case measure => simp [intOf]; omega
                  · obtain rfl : i = len3 := by omega
                    go_wp2
                    go_ret
                    exact ⟨rfl, hb⟩

theorem walk (a0 : Int) (a1 : Int) (a2 : Option Addr) (len2 cap2 : Nat) (z2 : List Int) (a3 : Option Addr) (len3 cap3 : Nat) (z3 : List Int) (a4 : Int) (w : World) (w1 : (Lit.int .i64 a1).wf = true) (w2 : IsRow .u8 w a2 len2 cap2 z2) (w3 : IsRow .u8 w a3 len3 cap3 z3) (w4 : (Lit.int .i32 a4).wf = true) :
    Calls Try.prog 5 #[.int .i64 a0, .int .i64 a1, .slice a2 len2 cap2, .slice a3 len3 cap3, .int .i32 a4] w fun e w' => e = .returned (.bool true) ∧ Below w.heap.size w w' := by
  simp [Lit.wf, IntKind.min, IntKind.max, IntKind.signed, IntKind.bits] at w1 w4
  exact walkB a0 a1 a2 len2 cap2 _ a3 len3 cap3 _ a4 w (by omega) (by omega) (isB_of w2) (isB_of w3)

/-! ### THE ROW's STEP: WRITTEN OUT: LEAVE IT -/
set_option maxRecDepth 100000 in
theorem lifted (os : Os) (started : os.Started) (H : Type) (enc : TypeId × Value → H) :
    ReturnsInHanded {} Try.checked os 5 .any (Rows.fnValueIsWindowOfFlatRoomsSpec.pre6 enc Try.prog Try.f5 Rows.fnValueIsWindowOfFlatRoomsRow.domain false) (Rows.fnValueIsWindowOfFlatRoomsSpec.post enc Try.prog Try.f5 false true false false) := by
  refine returnsInHanded_of_change (C := Try.checked) own started (by kernel_rfl) Try.func5
    (ChangeSpec.witness6 (enc := enc) (C := Try.checked) false ⟨#[], #[.int .i64 0, .int .i64 0, .slice none 0 0, .slice none 0 0, .int .i32 0], []⟩ 8 (by kernel_rfl) (by kernel_rfl) (by kernel_rfl) (by kernel_rfl)) ?_
  intro W base args ds gs before hval0 hW hcnd _
  have hval : ∀ (j : Nat) t v, Try.f5.params[j]? = some t → args[j]? = some v → Value.okWide Try.prog W .any base t v := hval0
  have hW' := hW
  obtain ⟨p, q, hA0, hV, rfl, hfz, hnd⟩ := hW
  have hA : DataW.TrodAll enc Try.prog W 0 (fun _ => true) true Try.f5.params.toList args.toList ds p := hA0
  rw [Try.params5] at hA hval
  obtain ⟨v0, vs0, d0, ds0, p0, q0, hargs, rfl, rfl, h0, r0⟩ := trodAll_cons hA
  obtain ⟨v1, vs1, d1, ds1, p1, q1, rfl, rfl, rfl, h1, r1⟩ := trodAll_cons r0
  obtain ⟨v2, vs2, d2, ds2, p2, q2, rfl, rfl, rfl, h2, r2⟩ := trodAll_cons r1
  obtain ⟨v3, vs3, d3, ds3, p3, q3, rfl, rfl, rfl, h3, r3⟩ := trodAll_cons r2
  obtain ⟨v4, vs4, d4, ds4, p4, q4, rfl, rfl, rfl, h4, r4⟩ := trodAll_cons r3
  obtain ⟨rfl, rfl, rfl⟩ := trodAll_nil r4
  obtain rfl : args = #[v0, v1, v2, v3, v4] := by cases args; simp_all
  obtain ⟨rfl, rfl⟩ := trodVars_none hV
  obtain ⟨a0, rfl, rfl, rfl, w0⟩ := open_int Try.underlying3 (hval 0 3 v0 rfl rfl) h0
  obtain ⟨a1, rfl, rfl, rfl, w1⟩ := open_int Try.underlying3 (hval 1 3 v1 rfl rfl) h1
  obtain ⟨a2, len2, cap2, rfl⟩ := okWide_slice Try.underlying24 (hval 2 24 v2 rfl rfl)
  have k2 := h2
  have lt2 : ∀ x ∈ p2, x.block < W.heap.size := by obtain ⟨m, hm⟩ := k2; exact DataW.trod_lt m _ _ _ hm
  obtain ⟨z2, w2⟩ : ∃ zs, IsRow .u8 W a2 len2 cap2 zs := by
    obtain ⟨fuel, hf⟩ := h2
    rcases open_ints Try.underlying24 Try.underlying5 (by kernel_rfl) hf with ⟨hcs, _⟩ | ⟨x, l, c, zs, hcs, _, hl, hm, hz, _, hcell, hwz⟩
    · simp [Value.cells] at hcs
      obtain ⟨rfl, rfl, rfl⟩ := hcs
      exact ⟨[], .inl ⟨rfl, rfl, rfl, rfl⟩⟩
    · simp [Value.cells] at hcs
      obtain ⟨rfl, rfl, rfl⟩ := hcs
      exact ⟨zs, .inr ⟨_, rfl, hl, hm, by simpa using hz, hcell, hwz⟩⟩
  obtain ⟨a3, len3, cap3, rfl⟩ := okWide_slice Try.underlying24 (hval 3 24 v3 rfl rfl)
  have k3 := h3
  have lt3 : ∀ x ∈ p3, x.block < W.heap.size := by obtain ⟨m, hm⟩ := k3; exact DataW.trod_lt m _ _ _ hm
  obtain ⟨z3, w3⟩ : ∃ zs, IsRow .u8 W a3 len3 cap3 zs := by
    obtain ⟨fuel, hf⟩ := h3
    rcases open_ints Try.underlying24 Try.underlying5 (by kernel_rfl) hf with ⟨hcs, _⟩ | ⟨x, l, c, zs, hcs, _, hl, hm, hz, _, hcell, hwz⟩
    · simp [Value.cells] at hcs
      obtain ⟨rfl, rfl, rfl⟩ := hcs
      exact ⟨[], .inl ⟨rfl, rfl, rfl, rfl⟩⟩
    · simp [Value.cells] at hcs
      obtain ⟨rfl, rfl, rfl⟩ := hcs
      exact ⟨zs, .inr ⟨_, rfl, hl, hm, by simpa using hz, hcell, hwz⟩⟩
  obtain ⟨a4, rfl, rfl, rfl, w4⟩ := open_int Try.underlying21 (hval 4 21 v4 rfl rfl) h4
  clear hA0 hval0
  refine (walk a0 a1 a2 len2 cap2 z2 a3 len3 cap3 z3 a4 W w1 w2 w3 w4).mono fun e W' ⟨he, bel⟩ => ?_
  subst he
  exact ⟨_, rfl, _, _, _, [], _, [], hW', trodAll_mk1 (shut_bool Try.underlying4 _), (trodAll_cons_mk (shut_int Try.underlying3 w0) (trodAll_cons_mk (shut_int Try.underlying3 w1) (trodAll_cons_mk (Below.trod laidOut (by kernel_rfl) (of_decide_eq_true (by kernel_rfl)) k2 bel lt2) (trodAll_cons_mk (Below.trod laidOut (by kernel_rfl) (of_decide_eq_true (by kernel_rfl)) k3 bel lt3) (trodAll_cons_mk (shut_int Try.underlying21 w4) trodAll_mk0))))), rfl, bel.frame _, fun h => by cases h⟩

theorem over : Rows.fnValueIsWindowOfFlatRoomsRow.holds Try.pinned (OpenSpec.ofChange Rows.fnValueIsWindowOfFlatRoomsSpec) :=
  OpenClaim.holds_of_wide 5 Try.f5 rfl rfl rfl rfl rfl rfl rfl ⟨rfl, rfl, rfl, rfl, rfl⟩ rfl rfl rfl rfl rfl (by kernel_rfl) Try.func5 (by kernel_rfl)
    (of_decide_eq_true (by kernel_rfl)) (by unfold Func.isWrapper; first | (rw [if_pos (by decide +kernel)]; kernel_rfl) | (rw [if_neg (by decide +kernel)]; exact ⟨rfl, rfl⟩))
    (fun os started H enc _ => lifted os started H enc)

/-- THE STATEMENT -/
theorem proved : Rows.FnValueIsWindowOfFlatRoomsSaid := over
#print axioms proved
end Go.Proofs.Qxb6602636a.fnValueIsWindowOfFlatRooms
