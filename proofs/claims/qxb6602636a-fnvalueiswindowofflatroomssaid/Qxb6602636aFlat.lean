/-
  FOR FnValueIsWindowOfFlatRooms: the flat room, its window, and THE CONTRACT of flatAtFountainB1 (12).
-/
import Derived.Test.Qxb6602636aTile
namespace Go.Proofs.Qxb6602636a
open Go.ChangeShapes Go.WideShapes Go.ChangeAt Go.RowKit

/-- position p of the flat room -/
def flat (F : Nat) (z2 z3 : Nat → Int) (p : Nat) : Int := if p < F then z2 p else z3 (p - F)

theorem flat_front {F p : Nat} {z2 z3 : Nat → Int} (h : p < F) : flat F z2 z3 p = z2 p := by simp [flat, h]
theorem flat_back {F p : Nat} {z2 z3 : Nat → Int} (h : F ≤ p) : flat F z2 z3 p = z3 (p - F) := by simp [flat, Nat.not_lt.2 h]

theorem flatAt (a2 a3 : Option Addr) (len2 cap2 len3 cap3 F p : Nat) (z2 z3 : Nat → Int) (w : World) (h2 : IsB w a2 len2 cap2 z2) (h3 : IsB w a3 len3 cap3 z3) (hF : F ≤ len2) (hl : len2 + len3 ≤ 1048576) (hp : p < F + len3) :
    Calls Try.prog 12 #[.slice a2 len2 cap2, .slice a3 len3 cap3, .int .i64 F, .int .i64 p] w fun e w' => e = .returned (.int .u8 (flat F z2 z3 p)) ∧ w' = w := by
  rcases Nat.lt_or_ge p F with h | h
  · rw [flat_front h]
    obtain ⟨b, off, rfl, hc⟩ := h2.cells (by omega)
    have c := hc p (by omega)
    clear h2 h3 hc
    have hlt : p < len2 := by omega
    go_enter Try.func12, Try.ntmps12
    go_wp2
    go_ret
    exact ⟨rfl, rfl⟩
  · rw [flat_back h]
    obtain ⟨i, rfl⟩ : ∃ i, p = F + i := ⟨p - F, by omega⟩
    have e : F + i - F = i := by omega
    rw [e]
    clear e
    obtain ⟨b, off, rfl, hc⟩ := h3.cells (by omega)
    have c := hc i (by omega)
    clear h2 h3 hc
    have hlt : i < len3 := by omega
    have hsub : ((F : Int) + (i : Int) - (F : Int)) = (i : Int) := by omega
    go_enter Try.func12, Try.ntmps12
    go_wp2
    go_ret
    exact ⟨rfl, rfl⟩

/-- symbols' room when the flat room's positions S .. S+q-1 have gone up by one -/
def upFront (F S : Nat) (z : Nat → Int) (q : Nat) : Nat → Int := fun p => if p < F ∧ S ≤ p ∧ p < S + q then IntKind.u8.wrap (z p + 1) else z p
/-- zeros' room then -/
def upBack (F S : Nat) (z : Nat → Int) (q : Nat) : Nat → Int := fun p => if S ≤ F + p ∧ F + p < S + q then IntKind.u8.wrap (z p + 1) else z p

theorem upFront_in {F S q p : Nat} {z : Nat → Int} (h : p < F ∧ S ≤ p ∧ p < S + q) : upFront F S z q p = IntKind.u8.wrap (z p + 1) := if_pos h
theorem upFront_out {F S q p : Nat} {z : Nat → Int} (h : ¬ (p < F ∧ S ≤ p ∧ p < S + q)) : upFront F S z q p = z p := if_neg h
theorem upBack_in {F S q p : Nat} {z : Nat → Int} (h : S ≤ F + p ∧ F + p < S + q) : upBack F S z q p = IntKind.u8.wrap (z p + 1) := if_pos h
theorem upBack_out {F S q p : Nat} {z : Nat → Int} (h : ¬ (S ≤ F + p ∧ F + p < S + q)) : upBack F S z q p = z p := if_neg h

/-- both rooms when q positions from S on have gone up by one -/
def Lies (A B len2 len3 F S : Nat) (z2 z3 : Nat → Int) (q : Nat) (w : World) : Prop := Room w A len2 (upFront F S z2 q) ∧ Room w B len3 (upBack F S z3 q)

theorem Lies.later {A B len2 len3 F S q : Nat} {z2 z3 : Nat → Int} {w w' : World} (h : Lies A B len2 len3 F S z2 z3 q w) (hb : Below w.heap.size w w') : Lies A B len2 len3 F S z2 z3 q w' := ⟨h.1.later hb, h.2.later hb⟩

theorem Lies.start {A B len2 len3 F S : Nat} {z2 z3 : Nat → Int} {w : World} (h2 : Room w A len2 z2) (h3 : Room w B len3 z3) : Lies A B len2 len3 F S z2 z3 0 w :=
  ⟨h2.ext fun i _ => by rw [upFront_out (by omega)], h3.ext fun i _ => by rw [upBack_out (by omega)]⟩

theorem Lies.drewN {A B len2 len3 F S q : Nat} {z2 z3 : Nat → Int} {w : World} (h : Lies A B len2 len3 F S z2 z3 q w) (n : Nat) : Lies A B len2 len3 F S z2 z3 q (w.drewN n) := h

/-- what value(r) is -/
structure Win (A t : Nat) (C : Option Addr → Prop) (fl : Nat → Int) (Inv : Nat → World → Prop) (a : Option Addr) (B L : Nat) : Prop where
  call : C a
  addr : 0 < t → a = some ⟨B, L, none⟩
  above : A ≤ B
  read : ∀ q w, q < t → Inv 0 w → w.cell? ⟨B, L + q, none⟩ = some (.int .u8 (fl q))
  step : ∀ q w, q < t → Inv q w → ∃ v, w.cell? ⟨B, L + q, none⟩ = some (.int .u8 v) ∧ w.frozen? ⟨B, L + q, none⟩ = false ∧ Inv (q + 1) (w.setCell ⟨B, L + q, none⟩ (.int .u8 (IntKind.u8.wrap (v + 1))))

theorem sliced_zero (a : Option Addr) : sliced a 0 0 0 1 = .slice a 0 0 := by simp [sliced]

theorem window (A B len2 len3 t rec r F S : Nat) (z2 z3 : Nat → Int) (sa za : Option Addr) (hr : r < 2147483648) (ht : t ≤ 1048576) (eF : F = rec * t) (eS : S = r * t) (hF : F ≤ len2) (hlen : len2 + len3 ≤ 1048576) (hS : S + t ≤ F + len3)
    (hsa : 0 < len2 → sa = some ⟨A, 0, none⟩) (hza : 0 < len3 → za = some ⟨B, 0, none⟩) (hne : 0 < len2 → A ≠ B) (hAB : A ≤ B) :
    ∃ a B' L, Win A t (fun a => ∀ w, Calls Try.prog 11 #[.int .i64 t, .int .i64 rec, .slice sa len2 len2, .slice za len3 len3, .int .i32 r] w (Row w (.slice a t t))) (fun q => flat F z2 z3 (S + q)) (Lies A B len2 len3 F S z2 z3) a B' L := by
  rcases Nat.eq_zero_or_pos t with ht0 | ht0
  · subst ht0
    rcases Nat.lt_or_ge r rec with h | h
    · refine ⟨sa, A, 0, fun w => ?_, fun h => absurd h (Nat.lt_irrefl _), Nat.le_refl _, fun q w hq => absurd hq (Nat.not_lt_zero _), fun q w hq => absurd hq (Nat.not_lt_zero _)⟩
      rw [← sliced_zero sa]
      exact zzvalue_front 0 rec r 0 0 sa za len2 len2 len3 len3 w h hr (by simp) (by simp) (Nat.le_refl _) (Nat.zero_le _) (by omega)
    · obtain ⟨i, rfl⟩ : ∃ i, r = rec + i := ⟨r - rec, by omega⟩
      refine ⟨za, A, 0, fun w => ?_, fun h => absurd h (Nat.lt_irrefl _), Nat.le_refl _, fun q w hq => absurd hq (Nat.not_lt_zero _), fun q w hq => absurd hq (Nat.not_lt_zero _)⟩
      rw [← sliced_zero za]
      exact zzvalue_back 0 rec i 0 0 sa za len2 len2 len3 len3 w hr (by simp) (by simp) (Nat.le_refl _) (Nat.zero_le _) (by omega)
  · rcases Nat.lt_or_ge r rec with h | h
    · have hU : S + t ≤ F := by
        have := Nat.mul_le_mul_right t (show r + 1 ≤ rec from h)
        rw [Nat.succ_mul, ← eS, ← eF] at this
        exact this
      have hp : 0 < len2 := by omega
      have hs := hsa hp
      subst hs
      refine ⟨_, A, S, fun w => ?_, fun _ => rfl, Nat.le_refl _, ?_, ?_⟩
      · rw [← sliced_room A S t (fun h => by omega)]
        exact zzvalue_front t rec r S (S + t) _ za len2 len2 len3 len3 w h hr (by rw [eS]; exact (Int.natCast_mul r t).symm) (by rw [eS]; exact mul_succ_cast r t) (by omega) (by omega) (by omega)
      · rintro q w hq ⟨h1, _⟩
        rw [(h1 hp).cell (show S + q < len2 by omega), upFront_out (by omega), flat_front (by omega)]
      · rintro q w hq ⟨h1, h2⟩
        have hb := h1 hp
        refine ⟨z2 (S + q), by rw [hb.cell (show S + q < len2 by omega), upFront_out (by omega)], hb.free _, fun _ => (hb.store (show S + q < len2 by omega) _).ext fun i hi => ?_, (h2.other (fun _ => (hne hp).symm) _).ext fun i hi => ?_⟩
        · by_cases e : i = S + q
          · subst e
            rw [if_pos rfl, upFront_in (by omega)]
          · rw [if_neg e]
            by_cases g : i < F ∧ S ≤ i ∧ i < S + q
            · rw [upFront_in g, upFront_in (by omega)]
            · rw [upFront_out g, upFront_out (by omega)]
        · rw [upBack_out (by omega), upBack_out (by omega)]
    · obtain ⟨i, rfl⟩ : ∃ i, r = rec + i := ⟨r - rec, by omega⟩
      obtain ⟨L, hL⟩ : ∃ L, L = i * t := ⟨_, rfl⟩
      have hSL : S = F + L := by rw [eS, Nat.add_mul, ← eF, ← hL]
      have hp : 0 < len3 := by omega
      have hs := hza hp
      subst hs
      refine ⟨_, B, L, fun w => ?_, fun _ => rfl, hAB, ?_, ?_⟩
      · rw [← sliced_room B L t (fun h => by omega)]
        exact zzvalue_back t rec i L (L + t) sa _ len2 len2 len3 len3 w hr (by rw [hL]; exact (Int.natCast_mul i t).symm) (by rw [hL]; exact mul_succ_cast i t) (by omega) (by omega) (by omega)
      · rintro q w hq ⟨_, h2⟩
        rw [(h2 hp).cell (show L + q < len3 by omega), upBack_out (by omega), flat_back (by omega), show S + q - F = L + q by omega]
      · rintro q w hq ⟨h1, h2⟩
        have hb := h2 hp
        refine ⟨z3 (L + q), by rw [hb.cell (show L + q < len3 by omega), upBack_out (by omega)], hb.free _, (h1.other (fun h => hne h) _).ext fun i hi => ?_, fun _ => (hb.store (show L + q < len3 by omega) _).ext fun i hi => ?_⟩
        · rw [upFront_out (by omega), upFront_out (by omega)]
        · by_cases e : i = L + q
          · subst e
            rw [if_pos rfl, upBack_in (by omega)]
          · rw [if_neg e]
            by_cases g : S ≤ F + i ∧ F + i < S + q
            · rw [upBack_in g, upBack_in (by omega)]
            · rw [upBack_out g, upBack_out (by omega)]
end Go.Proofs.Qxb6602636a
