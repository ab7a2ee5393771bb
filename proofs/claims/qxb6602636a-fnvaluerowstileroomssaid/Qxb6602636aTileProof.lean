/-
  THE PROOF OF 'Rows.FnValueRowsTileRoomsSaid': the guide's frame for this function's types; the walk is ours.
-/
import Derived.Test.Qxb6602636aRows
import Derived.WalkKit
import Derived.ProofKit
import Derived.OpenShut
import Derived.ShutString
import Derived.Test.Qxb6602636aTile
import Derived.ChangeOld
import Derived.Below
namespace Go.Proofs.Qxb6602636a.fnValueRowsTileRooms
open Go.ChangeShapes Go.WideShapes Go.ChangeAt Go.RowKit
open Go.ChangeMaps (open_string shut_string)
set_option linter.unusedVariables false

theorem own : ownKnob Try.prog.godebug = none := by kernel_rfl
theorem laidOut : laidOutB Try.prog = true := by kernel_rfl

/-- WHAT THE WALK IS TOLD OF A SLICE OF INTEGERS THAT CAME IN: it is nil; or it leads to a row of 'cap' cells, the numbers 'zs' (the first 'len' are its elements, the rest its spare room), each fitting its kind. -/
def IsRow (k : IntKind) (w : World) (a : Option Addr) (len cap : Nat) (zs : List Int) : Prop :=
  (a = none ∧ len = 0 ∧ cap = 0 ∧ zs = []) ∨
  ∃ x, a = some x ∧ len ≤ cap ∧ cap ≤ maxLen ∧ zs.length = cap ∧ (∀ i, i < zs.length → w.cell? (x.add i) = some (.int k (zs.getD i 0))) ∧ ∀ n ∈ zs, (Lit.int k n).wf = true

/-- from the frame's word on a slice that came in to ours -/
theorem isB_of {w : World} {a : Option Addr} {len cap : Nat} {zs : List Int} (h : IsRow .u8 w a len cap zs) : IsB w a len cap (fun i => zs.getD i 0) := by
  rcases h with ⟨rfl, rfl, rfl, rfl⟩ | ⟨x, rfl, hl, hm, hz, hc, _⟩
  · exact ⟨fun _ => ⟨rfl, rfl⟩, fun h => absurd h (Nat.lt_irrefl _), Nat.le_refl _, Nat.zero_le _⟩
  · refine ⟨(fun h => by cases h), fun hp => ?_, hl, hm⟩
    obtain ⟨b, off, rfl, hc'⟩ := ints_at hc (by omega)
    exact ⟨b, off, rfl, fun j hj => hc' j (by omega)⟩

set_option maxRecDepth 100000 in
set_option maxHeartbeats 4000000 in
theorem walkB (a0 : Int) (a1 : Int) (a2 : Option Addr) (len2 cap2 : Nat) (z2 : Nat → Int) (a3 : Option Addr) (len3 cap3 : Nat) (z3 : Nat → Int) (w : World) (h2 : IsB w a2 len2 cap2 z2) (h3 : IsB w a3 len3 cap3 z3) :
    Calls Try.prog 6 #[.int .i64 a0, .int .i64 a1, .slice a2 len2 cap2, .slice a3 len3 cap3] w fun e w' => e = .returned (.bool true) ∧ Below w.heap.size w w' := by
  have H2 : Hid (IsB w a2 len2 cap2 z2) := h2
  have H3 : Hid (IsB w a3 len3 cap3 z3) := h3
  have m2 : len2 ≤ 9223372036854775807 := Nat.le_trans h2.hcap h2.hmax
  have m3 : len3 ≤ 9223372036854775807 := Nat.le_trans h3.hcap h3.hmax
  have k2 := h2.hcap
  have k3 := h3.hcap
  have n2 := h2.hmax
  have n3 := h3.hmax
  unfold maxLen at n2 n3
  clear h2 h3
  go_enter Try.func6, Try.ntmps6
  go_wp2_with fail
  refine (bytes13 a0 a1 a2 a3 len2 cap2 len3 cap3 w (by unfold maxLen; omega) (by unfold maxLen; omega)).mono ?_
  rintro e w ⟨⟨bb, rfl⟩, rfl⟩
  cases bb
  · go_wp2_with fail
    go_ret
    exact ⟨rfl, Below.refl _ _⟩
  by_cases p2 : 1048576 < len2
  · go_wp2_with fail
    go_ret
    exact ⟨rfl, Below.refl _ _⟩
  by_cases p3 : 1048576 < len3
  · go_wp2_with fail
    go_ret
    exact ⟨rfl, Below.refl _ _⟩
  by_cases p4 : 1048576 < len2 + len3
  · go_wp2_with fail
    go_ret
    exact ⟨rfl, Below.refl _ _⟩
  by_cases p5 : a0 < 1
  · go_wp2_with fail
    go_ret
    exact ⟨rfl, Below.refl _ _⟩
  by_cases p6 : 1048576 < a0
  · go_wp2_with fail
    go_ret
    exact ⟨rfl, Below.refl _ _⟩
  by_cases p7 : a1 < 0
  · go_wp2_with fail
    go_ret
    exact ⟨rfl, Below.refl _ _⟩
  obtain ⟨t, rfl⟩ : ∃ t : Nat, a0 = t := ⟨a0.toNat, by omega⟩
  obtain ⟨rec, rfl⟩ : ∃ rec : Nat, a1 = rec := ⟨a1.toNat, by omega⟩
  have eQ2 : ((len2 : Int) / (t : Int)) = ((len2 / t : Nat) : Int) := (Int.natCast_ediv len2 t).symm
  have hQ2 : len2 / t * t ≤ len2 := Nat.div_mul_le_self len2 t
  have hQ2l : len2 / t ≤ len2 := Nat.div_le_self len2 t
  have HQ2 : Hid (len2 / t * t ≤ len2) := hQ2
  clear hQ2
  generalize len2 / t = Q2 at *
  by_cases p8 : Q2 < rec
  · go_wp2_with fail
    go_ret
    exact ⟨rfl, Below.refl _ _⟩
  have eQ3 : ((len3 : Int) / (t : Int)) = ((len3 / t : Nat) : Int) := (Int.natCast_ediv len3 t).symm
  have hQ3 : len3 / t * t ≤ len3 := Nat.div_mul_le_self len3 t
  have hQ3l : len3 / t ≤ len3 := Nat.div_le_self len3 t
  have HQ3 : Hid (len3 / t * t ≤ len3) := hQ3
  clear hQ3
  generalize len3 / t = Q3 at *
  obtain ⟨F, hF⟩ : ∃ F, F = rec * t := ⟨_, rfl⟩
  obtain ⟨G, hG⟩ : ∃ G, G = Q3 * t := ⟨_, rfl⟩
  have eF : (rec : Int) * (t : Int) = (F : Int) := by rw [hF]; exact (Int.natCast_mul rec t).symm
  have eG : (Q3 : Int) * (t : Int) = (G : Int) := by rw [hG]; exact (Int.natCast_mul Q3 t).symm
  have hF2 : F ≤ len2 := by
    rw [hF]
    exact Nat.le_trans (Nat.mul_le_mul_right t (by omega)) HQ2.out
  have hG3 : G ≤ len3 := by rw [hG]; exact HQ3.out
  have HF : Hid (F = rec * t) := hF
  have HG : Hid (G = Q3 * t) := hG
  clear hF hG
  go_wp2_with fail
  refine (clone a2 len2 cap2 z2 w H2.out (by omega)).mono ?_
  rintro e w1 ⟨sa, rfl, sn, ss, sb, b1⟩
  have HSA : Hid (0 < len2 → sa = some ⟨w.heap.size, 0, none⟩) := fun h => ss (fun e => by have := sn e; omega)
  have hR1 : Room w1 w.heap.size len2 z2 := sb
  clear sn ss sb
  go_wp2_with fail
  refine (clone a3 len3 cap3 z3 w1 (H3.out.below b1 (Nat.le_refl _)) (by omega)).mono ?_
  rintro e w2 ⟨za, rfl, zn, zs, zb, b2⟩
  have HZA : Hid (0 < len3 → za = some ⟨w1.heap.size, 0, none⟩) := fun h => zs (fun e => by have := zn e; omega)
  have hR2 : Room w2 w1.heap.size len3 z3 := zb
  have hR1' := hR1.later b2
  have hL2 : Below w.heap.size w w2 := b1.trans (b2.mono b1.size)
  have HNE : Hid (0 < len2 → w.heap.size ≠ w1.heap.size) := fun h => by have := (hR1 h).lt; omega
  have hsz : w.heap.size ≤ w1.heap.size := b1.size
  clear zn zs zb hR1 b1 b2
  generalize w1.heap.size = Bz at *
  go_wp2_with fail
  have HR : Hid (Stand w.heap.size Bz len2 len3 t rec z2 z3 0 w2) := Stand.start hR1' hR2
  have HRD : Hid (∀ r, r < rec + Q3 → ∃ B' L Inv, Round w.heap.size t r (len2 + len3) (fun B' L => ∀ w, Calls Try.prog 11 #[.int .i64 t, .int .i64 rec, .slice sa len2 len2, .slice za len3 len3, .int .i32 r] w (Row w (.slice (some ⟨B', L, none⟩) t t))) (Stand w.heap.size Bz len2 len3 t rec z2 z3 r) (Stand w.heap.size Bz len2 len3 t rec z2 z3 (r + 1)) B' L Inv) :=
    fun r hr => Stand.round w.heap.size Bz len2 len3 t rec r Q3 z2 z3 sa za (by omega) (by rw [← HF.out]; exact hF2) (by rw [← HG.out]; exact hG3) (by omega) hr HSA.out HZA.out HNE.out hsz
  clear hR1' hR2
  go_loopw [14] (fun i wr => ∃ r : Nat, r ≤ rec + Q3 ∧ i = .int .i64 r ∧ Hid (Stand w.heap.size Bz len2 len3 t rec z2 z3 r wr) ∧ Below w.heap.size w wr) (fun i _ => rec + Q3 - (intOf i).toNat)
  case atStart => exact ⟨0, Nat.zero_le _, rfl, HR, hL2⟩
  case round =>
    obtain ⟨r, hr, rfl, hS, hb⟩ := hrel
    by_cases hlt : r < rec + Q3
    · obtain ⟨B', L, Inv, hD⟩ := HRD.out r hlt
      have HD : Hid (Round w.heap.size t r (len2 + len3) (fun B' L => ∀ w, Calls Try.prog 11 #[.int .i64 t, .int .i64 rec, .slice sa len2 len2, .slice za len3 len3, .int .i32 r] w (Row w (.slice (some ⟨B', L, none⟩) t t))) (Stand w.heap.size Bz len2 len3 t rec z2 z3 r) (Stand w.heap.size Bz len2 len3 t rec z2 z3 (r + 1)) B' L Inv) := hD
      have hlow := hD.low
      clear hD
      go_wp2_with fail
      refine (HD.out.call wr).mono ?_
      rintro e w3 ⟨rfl, b3⟩
      have HI : Hid (Inv 0 w3) := HD.out.start _ (hS.out.later b3)
      have hb3 : Below w.heap.size w w3 := hb.trans (b3.mono hb.size)
      clear hS
      go_wp2_with fail
      go_loopw [16] (fun i wr => ∃ q : Nat, q ≤ t ∧ i = .int .i64 q ∧ Hid (Inv q wr) ∧ Below w.heap.size w wr) (fun i _ => t - (intOf i).toNat)
      case atStart => exact ⟨0, Nat.zero_le _, rfl, HI, hb3⟩
      case round =>
        obtain ⟨q, hq, rfl, hI, hbq⟩ := hrel
        by_cases hqt : q < t
        · obtain ⟨v, hc, hf, hI'⟩ := HD.out.step q _ hqt hI.out
          have HI' : Hid (Inv (q + 1) (wr.setCell ⟨B', L + q, none⟩ (.int .u8 (IntKind.u8.wrap (v + 1))))) := hI'
          clear hI' hI
          go_wp2
          go_roundw
          case rel => exact ⟨q + 1, by omega, by go_num, HI', hbq.setCell HD.out.above _⟩
          case measure => simp [intOf]; omega
        · obtain rfl : q = t := by omega
          have HS : Hid (Stand w.heap.size Bz len2 len3 q rec z2 z3 (r + 1) wr) := HD.out.stop _ hI.out
          clear hI
          go_wp2
          go_roundw
          case rel => exact ⟨r + 1, by omega, by go_num, HS, hbq⟩
          case measure => simp [intOf]; omega
    · obtain rfl : r = rec + Q3 := by omega
      have HA : Hid (Room wr w.heap.size len2 (upTo z2 F)) := show Room _ _ _ _ by
        rw [HF.out]
        have := hS.out.1
        rw [Nat.min_eq_right (Nat.le_add_right _ _)] at this
        exact this
      have HB : Hid (Room wr Bz len3 (upTo z3 G)) := show Room _ _ _ _ by
        rw [HG.out]
        have := hS.out.2
        rw [Nat.add_sub_cancel_left] at this
        exact this
      have H2' : Hid (IsB wr a2 len2 cap2 z2) := H2.out.below hb (Nat.le_refl _)
      have H3' : Hid (IsB wr a3 len3 cap3 z3) := H3.out.below hb (Nat.le_refl _)
      have HX : Hid (∀ k, k < len2 → ∃ b off, a2 = some ⟨b, off, none⟩ ∧ sa = some ⟨w.heap.size, 0, none⟩ ∧ wr.cell? ⟨b, off + k, none⟩ = some (.int .u8 (z2 k)) ∧ wr.cell? ⟨w.heap.size, k, none⟩ = some (.int .u8 (upTo z2 F k))) := fun k hk => by
        obtain ⟨b, off, e, hc⟩ := H2'.out.cells (by omega)
        exact ⟨b, off, e, HSA.out (by omega), hc k hk, (HA.out (by omega)).cell hk⟩
      have HY : Hid (∀ k, k < len3 → ∃ b off, a3 = some ⟨b, off, none⟩ ∧ za = some ⟨Bz, 0, none⟩ ∧ wr.cell? ⟨b, off + k, none⟩ = some (.int .u8 (z3 k)) ∧ wr.cell? ⟨Bz, k, none⟩ = some (.int .u8 (upTo z3 G k))) := fun k hk => by
        obtain ⟨b, off, e, hc⟩ := H3'.out.cells (by omega)
        exact ⟨b, off, e, HZA.out (by omega), hc k hk, (HB.out (by omega)).cell hk⟩
      clear hS HRD HA HB H2' H3' HSA HZA
      go_wp2_with fail
      go_loop [17] (fun i => ∃ k : Nat, k ≤ len2 ∧ i = .int .i64 k) (fun i => len2 - (intOf i).toNat)
      case atStart => exact ⟨0, Nat.zero_le _, rfl⟩
      case round =>
        obtain ⟨k, hk, rfl⟩ := hrel
        by_cases hkt : k < len2
        · obtain ⟨b, off, rfl, rfl, c1, c2⟩ := HX.out k hkt
          by_cases hkF : k < F
          · rw [upTo_in hkF] at c2
            go_wp2
            go_round
            case rel => exact ⟨k + 1, by omega, by go_num⟩
            case measure => simp [intOf]; omega
          · rw [upTo_out (by omega)] at c2
            go_wp2
            go_round
            case rel => exact ⟨k + 1, by omega, by go_num⟩
            case measure => simp [intOf]; omega
        · obtain rfl : k = len2 := by omega
          go_wp2_with fail
          go_loop [20] (fun i => ∃ k : Nat, k ≤ len3 ∧ i = .int .i64 k) (fun i => len3 - (intOf i).toNat)
          case atStart => exact ⟨0, Nat.zero_le _, rfl⟩
          case round =>
            obtain ⟨j, hj, rfl⟩ := hrel
            by_cases hjt : j < len3
            · obtain ⟨b, off, rfl, rfl, c1, c2⟩ := HY.out j hjt
              by_cases hjG : j < G
              · rw [upTo_in hjG] at c2
                go_wp2
                go_round
                case rel => exact ⟨j + 1, by omega, by go_num⟩
                case measure => simp [intOf]; omega
              · rw [upTo_out (by omega)] at c2
                go_wp2
                go_round
                case rel => exact ⟨j + 1, by omega, by go_num⟩
                case measure => simp [intOf]; omega
            · obtain rfl : j = len3 := by omega
              go_wp2
              go_ret
              exact ⟨rfl, hb⟩

theorem walk (a0 : Int) (a1 : Int) (a2 : Option Addr) (len2 cap2 : Nat) (z2 : List Int) (a3 : Option Addr) (len3 cap3 : Nat) (z3 : List Int) (w : World) (w2 : IsRow .u8 w a2 len2 cap2 z2) (w3 : IsRow .u8 w a3 len3 cap3 z3) :
    Calls Try.prog 6 #[.int .i64 a0, .int .i64 a1, .slice a2 len2 cap2, .slice a3 len3 cap3] w fun e w' => e = .returned (.bool true) ∧ Below w.heap.size w w' :=
  walkB a0 a1 a2 len2 cap2 _ a3 len3 cap3 _ w (isB_of w2) (isB_of w3)

/-! ### THE ROW's STEP: WRITTEN OUT: LEAVE IT -/
set_option maxRecDepth 100000 in
theorem lifted (os : Os) (started : os.Started) (H : Type) (enc : TypeId × Value → H) :
    ReturnsInHanded {} Try.checked os 6 .any (Rows.fnValueRowsTileRoomsSpec.pre6 enc Try.prog Try.f6 Rows.fnValueRowsTileRoomsRow.domain false) (Rows.fnValueRowsTileRoomsSpec.post enc Try.prog Try.f6 false true false false) := by
  refine returnsInHanded_of_change (C := Try.checked) own started (by kernel_rfl) Try.func6
    (ChangeSpec.witness6 (enc := enc) (C := Try.checked) false ⟨#[], #[.int .i64 0, .int .i64 0, .slice none 0 0, .slice none 0 0], []⟩ 8 (by kernel_rfl) (by kernel_rfl) (by kernel_rfl) (by kernel_rfl)) ?_
  intro W base args ds gs before hval0 hW hcnd _
  have hval : ∀ (j : Nat) t v, Try.f6.params[j]? = some t → args[j]? = some v → Value.okWide Try.prog W .any base t v := hval0
  have hW' := hW
  obtain ⟨p, q, hA0, hV, rfl, hfz, hnd⟩ := hW
  have hA : DataW.TrodAll enc Try.prog W 0 (fun _ => true) true Try.f6.params.toList args.toList ds p := hA0
  rw [Try.params6] at hA hval
  obtain ⟨v0, vs0, d0, ds0, p0, q0, hargs, rfl, rfl, h0, r0⟩ := trodAll_cons hA
  obtain ⟨v1, vs1, d1, ds1, p1, q1, rfl, rfl, rfl, h1, r1⟩ := trodAll_cons r0
  obtain ⟨v2, vs2, d2, ds2, p2, q2, rfl, rfl, rfl, h2, r2⟩ := trodAll_cons r1
  obtain ⟨v3, vs3, d3, ds3, p3, q3, rfl, rfl, rfl, h3, r3⟩ := trodAll_cons r2
  obtain ⟨rfl, rfl, rfl⟩ := trodAll_nil r3
  obtain rfl : args = #[v0, v1, v2, v3] := by cases args; simp_all
  obtain ⟨rfl, rfl⟩ := trodVars_none hV
  obtain ⟨a0, rfl, rfl, rfl, w0⟩ := open_int Try.underlying3 (hval 0 3 v0 rfl rfl) h0
  obtain ⟨a1, rfl, rfl, rfl, w1⟩ := open_int Try.underlying3 (hval 1 3 v1 rfl rfl) h1
  obtain ⟨a2, len2, cap2, rfl⟩ := okWide_slice Try.underlying24 (hval 2 24 v2 rfl rfl)
  have k2 := h2
  have lt2 : ∀ x ∈ p2, x.block < W.heap.size := by obtain ⟨m, hm⟩ := k2; exact DataW.trod_lt m _ _ _ hm
  obtain ⟨z2, w2⟩ : ∃ zs, IsRow .u8 W a2 len2 cap2 zs := by
    obtain ⟨fuel, hf⟩ := h2
    rcases open_ints Try.underlying24 Try.underlying5 (by kernel_rfl) hf with ⟨hcs, _⟩ | ⟨x, l, c, zs, hcs, _, hl, hm, hz, _, hcell, hwz⟩
    · simp [Value.cells] at hcs
      obtain ⟨rfl, rfl, rfl⟩ := hcs
      exact ⟨[], .inl ⟨rfl, rfl, rfl, rfl⟩⟩
    · simp [Value.cells] at hcs
      obtain ⟨rfl, rfl, rfl⟩ := hcs
      exact ⟨zs, .inr ⟨_, rfl, hl, hm, by simpa using hz, hcell, hwz⟩⟩
  obtain ⟨a3, len3, cap3, rfl⟩ := okWide_slice Try.underlying24 (hval 3 24 v3 rfl rfl)
  have k3 := h3
  have lt3 : ∀ x ∈ p3, x.block < W.heap.size := by obtain ⟨m, hm⟩ := k3; exact DataW.trod_lt m _ _ _ hm
  obtain ⟨z3, w3⟩ : ∃ zs, IsRow .u8 W a3 len3 cap3 zs := by
    obtain ⟨fuel, hf⟩ := h3
    rcases open_ints Try.underlying24 Try.underlying5 (by kernel_rfl) hf with ⟨hcs, _⟩ | ⟨x, l, c, zs, hcs, _, hl, hm, hz, _, hcell, hwz⟩
    · simp [Value.cells] at hcs
      obtain ⟨rfl, rfl, rfl⟩ := hcs
      exact ⟨[], .inl ⟨rfl, rfl, rfl, rfl⟩⟩
    · simp [Value.cells] at hcs
      obtain ⟨rfl, rfl, rfl⟩ := hcs
      exact ⟨zs, .inr ⟨_, rfl, hl, hm, by simpa using hz, hcell, hwz⟩⟩
  clear hA0 hval0
  refine (walk a0 a1 a2 len2 cap2 z2 a3 len3 cap3 z3 W w2 w3).mono fun e W' ⟨he, bel⟩ => ?_
  subst he
  exact ⟨_, rfl, _, _, _, [], _, [], hW', trodAll_mk1 (shut_bool Try.underlying4 _), (trodAll_cons_mk (shut_int Try.underlying3 w0) (trodAll_cons_mk (shut_int Try.underlying3 w1) (trodAll_cons_mk (Below.trod laidOut (by kernel_rfl) (of_decide_eq_true (by kernel_rfl)) k2 bel lt2) (trodAll_cons_mk (Below.trod laidOut (by kernel_rfl) (of_decide_eq_true (by kernel_rfl)) k3 bel lt3) trodAll_mk0)))), rfl, bel.frame _, fun h => by cases h⟩

theorem over : Rows.fnValueRowsTileRoomsRow.holds Try.pinned (OpenSpec.ofChange Rows.fnValueRowsTileRoomsSpec) :=
  OpenClaim.holds_of_wide 6 Try.f6 rfl rfl rfl rfl rfl rfl rfl ⟨rfl, rfl, rfl, rfl, rfl⟩ rfl rfl rfl rfl rfl (by kernel_rfl) Try.func6 (by kernel_rfl)
    (of_decide_eq_true (by kernel_rfl)) (by unfold Func.isWrapper; first | (rw [if_pos (by decide +kernel)]; kernel_rfl) | (rw [if_neg (by decide +kernel)]; exact ⟨rfl, rfl⟩))
    (fun os started H enc _ => lifted os started H enc)

/-- THE STATEMENT -/
theorem proved : Rows.FnValueRowsTileRoomsSaid := over
#print axioms proved
end Go.Proofs.Qxb6602636a.fnValueRowsTileRooms
