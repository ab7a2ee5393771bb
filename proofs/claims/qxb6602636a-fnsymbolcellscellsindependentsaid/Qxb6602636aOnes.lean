/-
  THE CONTRACT of allOnesFountainB1 (8); an append of one byte to a full window, at the operation.
-/
import Derived.Test.Qxb6602636aCells
import Derived.ArgAppend
namespace Go.Proofs.Qxb6602636a
open Go.ChangeShapes Go.WideShapes Go.ChangeAt Go.RowKit

/-- where cell k's window ends -/
theorem window_le {h t k : Nat} (hk : k < h) : k * t + t ≤ h * t := by
  have := Nat.mul_le_mul_right t (show k + 1 ≤ h from hk)
  rw [Nat.succ_mul] at this
  exact this

set_option maxHeartbeats 1000000 in
theorem allOnes (Bc Br h t : Nat) (w : World) (h1 : h ≤ 65536) (h2 : t ≤ 1048576) (hc : Cells w Bc Br h t h) (hby : Bytes w Br (h * t) (fun _ => 1)) :
    Calls Try.prog 8 #[.slice (some ⟨Bc, 0, none⟩) h h, .int .i64 t] w fun e w' => e = .returned (.bool true) ∧ w' = w := by
  have HC : Hid (Cells w Bc Br h t h) := hc
  have HB : Hid (Bytes w Br (h * t) (fun _ => 1)) := hby
  clear hc hby
  go_enter Try.func8, Try.ntmps8
  go_wp2_with fail
  go_loop [5] (fun i => ∃ k : Nat, k ≤ h ∧ i = .int .i64 k) (fun i => h - (intOf i).toNat)
  case atStart => exact ⟨0, Nat.zero_le _, rfl⟩
  case round =>
    obtain ⟨k, hk, rfl⟩ := hrel
    by_cases hlt : k < h
    · have c0 := HC.out.cell hlt
      have HLN : Hid (k * t + t ≤ h * t) := window_le hlt
      generalize k * t = L at c0 HLN
      go_wp2_with fail
      go_loop [7] (fun i => ∃ q : Nat, q ≤ t ∧ i = .int .i64 q) (fun i => t - (intOf i).toNat)
      case atStart => exact ⟨0, Nat.zero_le _, rfl⟩
      case round =>
        obtain ⟨q, hq, rfl⟩ := hrel
        by_cases hqt : q < t
        · have c1 := HB.out.cell (i := L + q) (by have := HLN.out; omega)
          go_wp2_with fail
          go_round
          case rel => exact ⟨q + 1, by omega, by go_num⟩
          case measure => simp [intOf]; omega
        · go_wp2_with fail
          go_round
          case rel => exact ⟨k + 1, by omega, by go_num⟩
          case measure => simp [intOf]; omega
    · go_wp2_with fail
      go_ret
      exact ⟨rfl, rfl⟩

/-- 'append(s, x)' of one byte to a slice without spare room: a new array. -/
theorem wpList_append_byte (w : World) {ops : Array Oper} {rest : List Oper} {o : Oper} {a : Act} {Q : Exit → Act → World → Prop}
    (hg : o.guard = none) (s x : Operand) (hop : o.op = Op.call { callee := Callee.builtin Builtin.append, args := #[s, x], argTypes := #[24, 24] })
    (ad : Addr) (n : Nat) (olds : List Value) (hs : a.eval s = .slice (some ad) n n) (hlo : olds.length = n) (holds : ∀ j u, olds[j]? = some u → w.cell? (ad.add j) = some u)
    (an : Addr) (v : Int) (hx : a.eval x = .slice (some an) 1 1) (hv : w.cell? an = some (.int .u8 v)) (hn : n ≤ 1048576)
    (hK : ∀ g cap' w', w'.cell? ⟨g, n, none⟩ = some (.int .u8 v) → n + 1 ≤ cap' → w.grownBy w' none → wpList Try.prog ops Q rest (a.put o.dst (.slice (some ⟨g, 0, none⟩) (n + 1) cap')) w') :
    wpList Try.prog ops Q (o :: rest) a w := by
  obtain ⟨i0, hi, hz0, hz1, hz2⟩ := info_parts info5
  refine wpList_append_grows w hg s x 24 hop 5 i0 (.int .u8 0) 1 1 Try.underlying24 hi hz0 hz1 hz2 rfl (by decide) (some ad) n n olds hs (fun h => by cases h) (by omega) (fun b hb => by cases hb; exact holds) an 1 1 [.int .u8 v] hx rfl
    (fun j u hj => by
      match j, hj with
      | 0, hj =>
        simp at hj
        subst hj
        simpa [Addr.add] using hv) (fun u hu => by simp at hu; subst hu; rfl) (by omega) (by unfold maxLen; omega) (by omega) ?_
  intro v' w' hown hgr
  rcases hown.2 with ⟨_, h0⟩ | ⟨g, cap', cur, e, _, hh, hle, _⟩
  · omega
  · subst e
    refine hK g cap' w' ?_ hle hgr
    rw [hown.cellAt n (by omega), List.getElem?_append_right (by omega)]
    simp [hlo]

end Go.Proofs.Qxb6602636a
