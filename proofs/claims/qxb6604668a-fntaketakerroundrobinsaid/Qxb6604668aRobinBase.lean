/-
  FOR FnTakeTakerRoundRobin: memory: the names' block, the round's slice; b1Member (29); make with a capacity.
-/
import Derived.Test.Qxb6604668aRobin
namespace Go.Proofs.Qxb6604668a
open Go.ChangeShapes Go.WideShapes Go.ChangeAt Go.RowKit

/-- the copied names, in block Bi -/
def NmHeld (w : World) (Bi len : Nat) (ss : List ByteArray) : Prop := 0 < len → w.heap[Bi]? = some (.cells (strArr ss) 9 (0, 0))

theorem NmHeld.kept {w w' : World} {Bi len : Nat} {ss : List ByteArray} (h : NmHeld w Bi len ss) (hk : KeptC w w') : NmHeld w' Bi len ss := fun hl => hk _ _ _ (h hl) (by decide) (by decide)
theorem NmHeld.later {w w' : World} {Bi len : Nat} {ss : List ByteArray} (h : NmHeld w Bi len ss) (hb : Below w.heap.size w w') : NmHeld w' Bi len ss := fun hl => (hb.block _ (lt_of_block (h hl))).trans (h hl)
theorem NmHeld.cell {w : World} {Bi len : Nat} {ss : List ByteArray} (h : NmHeld w Bi len ss) (hlen : ss.length = len) {j : Nat} (hj : j < len) : w.cell? ⟨Bi, j, none⟩ = some (.string (nmAt ss j)) := by
  rw [cell_in (h (by omega)), strArr_at (by omega)]; rfl

/-- b1Member: the name is there -/
theorem member (a : Option Addr) (len cap Bi : Nat) (ss : List ByteArray) (s : ByteArray) (w : World) (h4 : len ≤ 4096) (hlen : ss.length = len) (ha : 0 < len → a = some ⟨Bi, 0, none⟩) (hN : NmHeld w Bi len ss) (hin : ∃ j, j < len ∧ nmAt ss j = s) :
    Calls Try.prog 29 #[.slice a len cap, .string s] w fun e w' => e = .returned (.bool true) ∧ w' = w := by
  have HN : Hid (NmHeld w Bi len ss) := hN
  have HI : Hid (∃ j, j < len ∧ nmAt ss j = s) := hin
  have HL : Hid (ss.length = len) := hlen
  obtain rfl : a = some ⟨Bi, 0, none⟩ := ha (by obtain ⟨j, hj, _⟩ := hin; omega)
  clear hN hin hlen ha
  go_enter Try.func29, Try.ntmps29
  go_wp2
  go_loop [5] (fun i => ∃ k : Nat, k ≤ len ∧ i = .int .i64 k ∧ ∀ j, j < k → nmAt ss j ≠ s) (fun i => len - (intOf i).toNat)
  case atStart => exact ⟨0, Nat.zero_le _, rfl, fun j hj => absurd hj (Nat.not_lt_zero _)⟩
  case round =>
    obtain ⟨k, hk, rfl, hne⟩ := hrel
    have HNE : Hid (∀ j, j < k → nmAt ss j ≠ s) := hne
    clear hne
    by_cases hlt : k < len
    · have c0 := HN.out.cell HL.out hlt
      by_cases he : nmAt ss k = s
      · have hb : ((nmAt ss k).toList == s.toList) = true := by rw [he]; exact beq_self_eq_true _
        clear he
        go_wp2
        go_ret
        exact ⟨rfl, rfl⟩
      · have hb := str_ne he
        have HE : Hid (nmAt ss k ≠ s) := he
        clear he
        go_wp2
        go_round
        case rel =>
          refine ⟨k + 1, by omega, by go_num, fun j hj => ?_⟩
          rcases Nat.lt_or_ge j k with h | h
          · exact HNE.out j h
          · obtain rfl : j = k := by omega
            exact HE.out
        case measure => simp [intOf]; omega
    · exfalso
      obtain ⟨j, hj, e⟩ := HI.out
      exact HNE.out j (by omega) e

/-- 'make([]T, 0, n)' at the operation, T of one cell: the world is known. -/
theorem wpList_make_cap {P : Program} (w : World) {ops : Array Oper} {rest : List Oper} {o : Oper} {a : Act} {Q : Exit → Act → World → Prop}
    (hg : o.guard = none) (l c : Operand) (t : TypeId) (hop : o.op = Op.makeSlice t l c) (e : TypeId) (z : Value) (by8 : Nat) (h1 : P.underlying t = some (.slice e)) (h2 : (P.info? e).map (fun i => (i.zero, i.size, i.bytes)) = some (some z, 1, by8)) (hz : z.cells = #[z])
    (n : Nat) (hl : a.eval l = .int .i64 0) (hc : a.eval c = .int .i64 n) (b2 : by8 * n ≤ 281474976710656) (b3 : n ≤ maxLen)
    (hK : wpList P ops Q rest (a.put o.dst (.slice (some ⟨w.heap.size, 0, none⟩) 0 n)) (w.alloc (.cells (List.replicate n z).toArray e))) : wpList P ops Q (o :: rest) a w := by
  obtain ⟨i, hi, hz0, hz1, hz2⟩ := info_parts h2
  refine wpList_plain hg fun K hK' => ?_
  have hrun := run_make (P := P) w t e i z h1 hi hz0 .i64 .i64 0 (n : Int) (by omega) (by omega) (by rw [hz2]; omega) (by unfold maxLen at b3; omega)
  rw [hz1, hz, Nat.mul_one, Int.toNat_natCast, madeCells_one] at hrun
  unfold Oper.wp
  simp [execOp, hop, hl, hc, hrun, Result.andThen]
  exact hK' _ _ (by simpa using hK)

/-- the round's slice: block Br holds the first n of R, and has room for m -/
def Round (w : World) (Br m n : Nat) (R : List ByteArray) : Prop := ∃ cur, w.heap[Br]? = some (.cells cur 9 (0, 0)) ∧ cur.size = m ∧ ∀ j, j < n → cur[j]? = some (.string (rAt R j))

theorem Round.kept {w w' : World} {Br m n : Nat} {R : List ByteArray} (h : Round w Br m n R) (hk : KeptC w w') : Round w' Br m n R := by
  obtain ⟨cur, h1, h2⟩ := h
  exact ⟨cur, hk _ _ _ h1 (by decide) (by decide), h2⟩
theorem Round.cell {w : World} {Br m n : Nat} {R : List ByteArray} (h : Round w Br m n R) {j : Nat} (hj : j < n) : w.cell? ⟨Br, j, none⟩ = some (.string (rAt R j)) := by
  obtain ⟨cur, h1, _, h3⟩ := h
  rw [cell_in h1, h3 j hj]

/-- a block of strings is turned: the worker stays -/
theorem Wk.turned {w w' : World} {B kk : Nat} {f : ByteArray → Option Nat} {c : Nat} {g : ByteArray → Option Tk} (h : Wk w B kk f c g) {Br : Nat} {vs : Array Value} (hb : w.heap[Br]? = some (.cells vs 9 (0, 0))) (hg : w.grownBy w' (some Br)) : Wk w' B kk f c g := by
  obtain ⟨nt, hst⟩ := h.st
  have n1 : B ≠ Br := fun e => by
    obtain ⟨D, ⟨es, clock, h1, _⟩, _⟩ := h.pm
    rw [← e, h1] at hb
    cases hb
  have n2 : B + 1 ≠ Br := fun e => by
    rw [← e, hst] at hb
    simp [wkObj] at hb
  refine ⟨h.pm.kept hg (by simpa using n1), ⟨nt, (hg.block _ h.lt (by simpa using n2)).trans hst⟩, fun s x hs => ?_, h.gone, h.fits, h.above⟩
  obtain ⟨t, ht, hx⟩ := h.here s x hs
  refine ⟨t, ht, (hg.block _ (lt_of_block hx) (fun e => ?_)).trans hx⟩
  cases e
  rw [hx] at hb
  simp [tkObj] at hb

theorem NmHeld.turned {w w' : World} {Bi len : Nat} {ss : List ByteArray} (h : NmHeld w Bi len ss) {Br : Nat} (hne : 0 < len → Bi ≠ Br) (hg : w.grownBy w' (some Br)) : NmHeld w' Bi len ss := fun hl =>
  (hg.block _ (lt_of_block (h hl)) (by simpa using hne hl)).trans (h hl)

/-- the round's slice, as the append's law has it -/
theorem Round.owns {w : World} {Br m n : Nat} {R : List ByteArray} (h : Round w Br m n R) (hnm : n ≤ m) (hm : m ≤ maxLen) (hR : n ≤ R.length) : w.ownsRow Br 9 1 (.slice (some ⟨Br, 0, none⟩) n m) n ((R.take n).map Value.string) := by
  obtain ⟨cur, h1, h2, h3⟩ := h
  refine ⟨by simp; omega, .inr ⟨Br, m, cur, rfl, Nat.le_refl _, h1, hnm, hm, by omega, ?_⟩⟩
  apply List.ext_getElem?
  intro j
  rw [Nat.mul_one, List.getElem?_take]
  split
  · rename_i hj
    have := h3 j hj
    simp only [rAt, List.getD_eq_getElem?_getD] at this
    rw [Array.getElem?_toList, this, List.getElem?_map, List.getElem?_take, if_pos hj, List.getElem?_eq_getElem (by omega)]
    rfl
  · rename_i hj
    rw [List.getElem?_eq_none (by simp; omega)]

theorem Round.of_owns {w : World} {Br m n : Nat} {R : List ByteArray} (hR : n < R.length) (h : w.ownsRow Br 9 1 (.slice (some ⟨Br, 0, none⟩) (n + 1) m) (n + 1) ((R.take n).map Value.string ++ [.string (rAt R n)])) : Round w Br m (n + 1) R := by
  rcases h.2 with ⟨h1, _⟩ | ⟨g, cap, cur, e, _, hg, _, _, hs, ht⟩
  · cases h1
  · cases e
    refine ⟨cur, hg, by omega, fun j hj => ?_⟩
    rw [Nat.mul_one] at ht
    have e1 : cur[j]? = (cur.toList.take (n + 1))[j]? := by
      rw [List.getElem?_take, if_pos hj, Array.getElem?_toList]
    rw [e1, ht]
    rcases Nat.lt_or_ge j n with h | h
    · rw [List.getElem?_append_left (by simp; omega), List.getElem?_map, List.getElem?_take, if_pos h, List.getElem?_eq_getElem (by omega)]
      simp [rAt, List.getElem?_eq_getElem (show j < R.length by omega)]
    · obtain rfl : j = n := by omega
      rw [List.getElem?_append_right (by simp; omega)]
      have : j - (List.map Value.string (R.take j)).length = 0 := by simp; omega
      rw [this]
      rfl

/-- one new cell, as the append's law reads it -/
theorem new_one (w : World) (v : Value) (t : TypeId) : ∀ j u, [v][j]? = some u → (w.alloc (.cells #[v] t)).cell? ((⟨w.heap.size, 0, none⟩ : Addr).add j) = some u := by
  intro j u hj
  match j, hj with
  | 0, hj =>
    simp at hj
    subst hj
    simp [Addr.add]

/-- the name handed out before round j -/
def pvAt (R : List ByteArray) (j : Nat) : ByteArray := if j = 0 then ByteArray.empty else rAt R ((j - 1) % R.length)

theorem pvAt_zero (R : List ByteArray) : pvAt R 0 = ByteArray.empty := rfl
theorem pvAt_succ (R : List ByteArray) (j : Nat) : pvAt R (j + 1) = rAt R (j % R.length) := by simp [pvAt]
theorem pvAt_none {R : List ByteArray} (h : R.length = 0) (j : Nat) : pvAt R j = ByteArray.empty := by
  obtain rfl := List.eq_nil_of_length_eq_zero h
  simp [pvAt, rAt]

theorem St.still {R : List ByteArray} {j j' : Nat} {g : ByteArray → Option Tk} (hR : R.length = 0) (h : St R j g) : St R j' g := ⟨fun i hi => absurd hi (by omega), h.hno⟩

theorem St.bare {R : List ByteArray} {j : Nat} {g : ByteArray → Option Tk} (h : St R j g) (h0 : ∀ s, g s = none) : R.length = 0 := by
  rcases Nat.eq_zero_or_pos R.length with h1 | h1
  · exact h1
  · have := h.hat 0 h1
    rw [h0] at this
    cases this

end Go.Proofs.Qxb6604668a
