/-
  FOR FnValueRowsTileRooms and FnValueIsWindowOfFlatRooms: a room of bytes some of which have gone up by one.
-/
import Derived.Test.Qxb6602636aCells
import Derived.Test.Qxb6602636aValue
namespace Go.Proofs.Qxb6602636a
open Go.ChangeShapes Go.WideShapes Go.ChangeAt Go.RowKit

/-- those below m have gone up by one -/
def upTo (z : Nat → Int) (m : Nat) : Nat → Int := fun p => if p < m then IntKind.u8.wrap (z p + 1) else z p

theorem upTo_zero (z : Nat → Int) (p : Nat) : upTo z 0 p = z p := by simp [upTo]
theorem upTo_in {z : Nat → Int} {m p : Nat} (h : p < m) : upTo z m p = IntKind.u8.wrap (z p + 1) := by simp [upTo, h]
theorem upTo_out {z : Nat → Int} {m p : Nat} (h : m ≤ p) : upTo z m p = z p := by simp [upTo, Nat.not_lt.2 h]

theorem Bytes.up {w : World} {b n : Nat} {z : Nat → Int} {m : Nat} (h : Bytes w b n (upTo z m)) (hm : m < n) : Bytes (w.setCell ⟨b, m, none⟩ (.int .u8 (IntKind.u8.wrap (z m + 1)))) b n (upTo z (m + 1)) :=
  (h.store hm _).ext fun i _ => by
    by_cases e : i = m
    · subst e
      rw [if_pos rfl, upTo_in (by omega)]
    · rw [if_neg e]
      rcases Nat.lt_or_ge i m with h | h
      · rw [upTo_in h, upTo_in (by omega)]
      · rw [upTo_out h, upTo_out (by omega)]

/-- the room of a clone, told only where there is one -/
def Room (w : World) (b n : Nat) (f : Nat → Int) : Prop := 0 < n → Bytes w b n f

theorem Room.later {w w' : World} {b n : Nat} {f : Nat → Int} (h : Room w b n f) (hb : Below w.heap.size w w') : Room w' b n f := fun hn => (h hn).later hb
theorem Room.ext {w : World} {b n : Nat} {f g : Nat → Int} (h : Room w b n f) (hfg : ∀ i, i < n → f i = g i) : Room w b n g := fun hn => (h hn).ext hfg
theorem Room.other {w : World} {b n : Nat} {f : Nat → Int} (h : Room w b n f) {p : Addr} (hne : 0 < n → b ≠ p.block) (u : Value) : Room (w.setCell p u) b n f := fun hn => (h hn).other (hne hn) u

/-- where the two rooms stand after r rows -/
def Stand (A B len2 len3 t rec : Nat) (z2 z3 : Nat → Int) (r : Nat) (w : World) : Prop :=
  Room w A len2 (upTo z2 (min r rec * t)) ∧ Room w B len3 (upTo z3 ((r - rec) * t))

theorem Stand.later {A B len2 len3 t rec r : Nat} {z2 z3 : Nat → Int} {w w' : World} (h : Stand A B len2 len3 t rec z2 z3 r w) (hb : Below w.heap.size w w') : Stand A B len2 len3 t rec z2 z3 r w' := ⟨h.1.later hb, h.2.later hb⟩

theorem Stand.start {A B len2 len3 t rec : Nat} {z2 z3 : Nat → Int} {w : World} (h2 : Room w A len2 z2) (h3 : Room w B len3 z3) : Stand A B len2 len3 t rec z2 z3 0 w := by
  refine ⟨h2.ext fun i _ => ?_, h3.ext fun i _ => ?_⟩
  · rw [Nat.zero_min, Nat.zero_mul, upTo_zero]
  · rw [Nat.zero_sub, Nat.zero_mul, upTo_zero]

/-- one row: the call and what the inner loop keeps -/
structure Round (A t r len : Nat) (C : Nat → Nat → Prop) (S S' : World → Prop) (B L : Nat) (Inv : Nat → World → Prop) : Prop where
  call : C B L
  above : A ≤ B
  low : L + t ≤ len
  start : ∀ w, S w → Inv 0 w
  step : ∀ q w, q < t → Inv q w → ∃ v, w.cell? ⟨B, L + q, none⟩ = some (.int .u8 v) ∧ w.frozen? ⟨B, L + q, none⟩ = false ∧ Inv (q + 1) (w.setCell ⟨B, L + q, none⟩ (.int .u8 (IntKind.u8.wrap (v + 1))))
  stop : ∀ w, Inv t w → S' w

theorem mul_succ_cast (r t : Nat) : ((r : Int) + 1) * (t : Int) = ((r * t + t : Nat) : Int) := by
  rw [Int.natCast_add, Int.natCast_mul, Int.add_mul, Int.one_mul]

theorem Stand.round (A B len2 len3 t rec r Q3 : Nat) (z2 z3 : Nat → Int) (sa za : Option Addr) (ht : 0 < t) (hF : rec * t ≤ len2) (hG : Q3 * t ≤ len3) (hlen : len2 + len3 ≤ 1048576) (hr : r < rec + Q3)
    (hsa : 0 < len2 → sa = some ⟨A, 0, none⟩) (hza : 0 < len3 → za = some ⟨B, 0, none⟩) (hne : 0 < len2 → A ≠ B) (hAB : A ≤ B) :
    ∃ B' L Inv, Round A t r (len2 + len3) (fun B' L => ∀ w, Calls Try.prog 11 #[.int .i64 t, .int .i64 rec, .slice sa len2 len2, .slice za len3 len3, .int .i32 r] w (Row w (.slice (some ⟨B', L, none⟩) t t))) (Stand A B len2 len3 t rec z2 z3 r) (Stand A B len2 len3 t rec z2 z3 (r + 1)) B' L Inv := by
  have hrt : rec ≤ rec * t := Nat.le_mul_of_pos_right rec ht
  have hqt : Q3 ≤ Q3 * t := Nat.le_mul_of_pos_right Q3 ht
  rcases Nat.lt_or_ge r rec with h | h
  · have hU : r * t + t ≤ rec * t := by
      have := Nat.mul_le_mul_right t (show r + 1 ≤ rec from h)
      rw [Nat.succ_mul] at this
      exact this
    have hp : 0 < len2 := by omega
    have hs := hsa hp
    subst hs
    refine ⟨A, r * t, fun q w => Room w A len2 (upTo z2 (r * t + q)) ∧ Room w B len3 (upTo z3 0), ?_, Nat.le_refl _, by omega, ?_, ?_, ?_⟩
    · intro w
      rw [← sliced_room A (r * t) t (fun h => by omega)]
      exact zzvalue_front t rec r (r * t) (r * t + t) _ za len2 len2 len3 len3 w h (by omega) (Int.natCast_mul r t).symm (mul_succ_cast r t) (by omega) (by omega) (by omega)
    · rintro w ⟨h1, h2⟩
      rw [Nat.min_eq_left (by omega)] at h1
      rw [Nat.sub_eq_zero_of_le (by omega), Nat.zero_mul] at h2
      exact ⟨h1, h2⟩
    · rintro q w hq ⟨h1, h2⟩
      have hb := h1 hp
      refine ⟨z2 (r * t + q), (hb.cell (by omega)).trans (by rw [upTo_out (Nat.le_refl _)]), hb.free _, fun _ => hb.up (by omega), h2.other (fun _ => (hne hp).symm) _⟩
    · rintro w ⟨h1, h2⟩
      refine ⟨?_, ?_⟩
      · rw [Nat.min_eq_left (by omega), Nat.succ_mul]; exact h1
      · rw [Nat.sub_eq_zero_of_le (by omega), Nat.zero_mul]; exact h2
  · obtain ⟨i, rfl⟩ : ∃ i, r = rec + i := ⟨r - rec, by omega⟩
    have hU : i * t + t ≤ Q3 * t := by
      have := Nat.mul_le_mul_right t (show i + 1 ≤ Q3 by omega)
      rw [Nat.succ_mul] at this
      exact this
    have hp : 0 < len3 := by omega
    have hs := hza hp
    subst hs
    refine ⟨B, i * t, fun q w => Room w A len2 (upTo z2 (rec * t)) ∧ Room w B len3 (upTo z3 (i * t + q)), ?_, hAB, by omega, ?_, ?_, ?_⟩
    · intro w
      rw [← sliced_room B (i * t) t (fun h => by omega)]
      exact zzvalue_back t rec i (i * t) (i * t + t) sa _ len2 len2 len3 len3 w (by omega) (Int.natCast_mul i t).symm (mul_succ_cast i t) (by omega) (by omega) (by omega)
    · rintro w ⟨h1, h2⟩
      rw [Nat.min_eq_right (by omega)] at h1
      rw [Nat.add_sub_cancel_left] at h2
      exact ⟨h1, h2⟩
    · rintro q w hq ⟨h1, h2⟩
      have hb := h2 hp
      refine ⟨z3 (i * t + q), (hb.cell (by omega)).trans (by rw [upTo_out (Nat.le_refl _)]), hb.free _, h1.other (fun h => hne h) _, fun _ => hb.up (by omega)⟩
    · rintro w ⟨h1, h2⟩
      refine ⟨?_, ?_⟩
      · rw [Nat.min_eq_right (by omega)]; exact h1
      · rw [show rec + i + 1 - rec = i + 1 by omega, Nat.succ_mul]; exact h2

end Go.Proofs.Qxb6602636a
