/-
  FOR FnTakeTakerRoundRobin: the plain law. Distinct names, sorted; what each taker holds behind c tasks; which one is least.
-/
import Derived.Test.Qxb6604668aTook
import Derived.Test.Qxb6604668aStrs
namespace Go.Proofs.Qxb6604668a
open Go.RowKit

/-- the name at place j -/
def nmAt (ss : List ByteArray) (j : Nat) : ByteArray := ss.getD j ByteArray.empty

/-! ### sorting names -/
def ins (s : ByteArray) (l : List ByteArray) : List ByteArray :=
  match l with
  | [] => [s]
  | x :: r => if sLess s x = true then s :: x :: r else x :: ins s r

def sortS (l : List ByteArray) : List ByteArray := l.foldr ins []

theorem ins_mem (s y : ByteArray) : ∀ l : List ByteArray, y ∈ ins s l ↔ y = s ∨ y ∈ l
  | [] => by simp [ins]
  | x :: r => by
    unfold ins
    split
    · simp
    · simp only [List.mem_cons, ins_mem s y r]
      constructor
      · rintro (h | h | h)
        · exact .inr (.inl h)
        · exact .inl h
        · exact .inr (.inr h)
      · rintro (h | h | h)
        · exact .inr (.inl h)
        · exact .inl h
        · exact .inr (.inr h)

theorem ins_length (s : ByteArray) : ∀ l : List ByteArray, (ins s l).length = l.length + 1
  | [] => rfl
  | x :: r => by
    unfold ins
    split
    · rfl
    · simp [ins_length s r]

theorem ins_sorted (s : ByteArray) : ∀ l : List ByteArray, s ∉ l → l.Pairwise (fun a b => sLess a b = true) → (ins s l).Pairwise (fun a b => sLess a b = true)
  | [], _, _ => by simp [ins]
  | x :: r, hn, hp => by
    obtain ⟨h1, h2⟩ := List.pairwise_cons.1 hp
    unfold ins
    split
    · rename_i hlt
      refine List.pairwise_cons.2 ⟨fun y hy => ?_, hp⟩
      rcases List.mem_cons.1 hy with rfl | hy
      · exact hlt
      · exact sLess_trans hlt (h1 y hy)
    · rename_i hlt
      refine List.pairwise_cons.2 ⟨fun y hy => ?_, ins_sorted s r (fun h => hn (List.mem_cons_of_mem _ h)) h2⟩
      rcases (ins_mem s y r).1 hy with rfl | hy
      · cases hx : sLess x y with
        | true => rfl
        | false => exact absurd (sLess_total hx (by simpa using hlt)) (fun e => hn (by rw [e]; exact List.mem_cons_self))
      · exact h1 y hy

theorem sortS_mem (y : ByteArray) : ∀ l : List ByteArray, y ∈ sortS l ↔ y ∈ l
  | [] => by simp [sortS]
  | x :: r => by
    have h : sortS (x :: r) = ins x (sortS r) := rfl
    rw [h, ins_mem, sortS_mem y r]
    simp

theorem sortS_length : ∀ l : List ByteArray, (sortS l).length = l.length
  | [] => rfl
  | x :: r => by
    have h : sortS (x :: r) = ins x (sortS r) := rfl
    rw [h, ins_length, sortS_length r]
    rfl

theorem sortS_sorted : ∀ l : List ByteArray, l.Nodup → (sortS l).Pairwise (fun a b => sLess a b = true)
  | [], _ => by simp [sortS]
  | x :: r, hn => by
    have h : sortS (x :: r) = ins x (sortS r) := rfl
    obtain ⟨h1, h2⟩ := List.nodup_cons.1 hn
    rw [h]
    exact ins_sorted x _ (fun hm => h1 ((sortS_mem x r).1 hm)) (sortS_sorted r h2)

/-! ### the distinct names of the first k -/
def hasS (s : ByteArray) (l : List ByteArray) : Bool :=
  match l with
  | [] => false
  | x :: r => decide (s = x) || hasS s r

theorem hasS_iff (s : ByteArray) : ∀ l : List ByteArray, hasS s l = true ↔ s ∈ l
  | [] => by simp [hasS]
  | x :: r => by simp [hasS, hasS_iff s r]

def ds (ss : List ByteArray) (k : Nat) : List ByteArray :=
  match k with
  | 0 => []
  | k + 1 => if hasS (nmAt ss k) (ds ss k) = true then ds ss k else nmAt ss k :: ds ss k

theorem ds_mem (ss : List ByteArray) (s : ByteArray) : ∀ k, s ∈ ds ss k ↔ ∃ j, j < k ∧ nmAt ss j = s
  | 0 => by simp [ds]
  | k + 1 => by
    have ih := ds_mem ss s k
    rw [ds]
    split
    · rename_i hk
      rw [hasS_iff] at hk
      rw [ih]
      constructor
      · rintro ⟨j, hj, e⟩
        exact ⟨j, by omega, e⟩
      · rintro ⟨j, hj, e⟩
        rcases Nat.lt_or_ge j k with h | h
        · exact ⟨j, h, e⟩
        · obtain rfl : j = k := by omega
          rw [← e]
          exact (ds_mem ss (nmAt ss j) j).1 hk
    · rw [List.mem_cons, ih]
      constructor
      · rintro (e | ⟨j, hj, e⟩)
        · exact ⟨k, by omega, e.symm⟩
        · exact ⟨j, by omega, e⟩
      · rintro ⟨j, hj, e⟩
        rcases Nat.lt_or_ge j k with h | h
        · exact .inr ⟨j, h, e⟩
        · obtain rfl : j = k := by omega
          exact .inl e.symm

theorem ds_nodup (ss : List ByteArray) : ∀ k, (ds ss k).Nodup
  | 0 => by simp [ds]
  | k + 1 => by
    rw [ds]
    split
    · exact ds_nodup ss k
    · rename_i hk
      rw [hasS_iff] at hk
      exact List.nodup_cons.2 ⟨hk, ds_nodup ss k⟩

theorem ds_length_le (ss : List ByteArray) : ∀ k, (ds ss k).length ≤ k
  | 0 => by simp [ds]
  | k + 1 => by
    have := ds_length_le ss k
    rw [ds]
    split
    · omega
    · simp; omega

/-- registered so far, with nothing handed over -/
def g0 (ss : List ByteArray) (k : Nat) : ByteArray → Option Tk := fun s => if hasS s (ds ss k) = true then some ⟨s, 0, 0, 0⟩ else none

theorem g0_step (ss : List ByteArray) (k : Nat) : gput (g0 ss k) (nmAt ss k) ⟨nmAt ss k, 0, 0, 0⟩ = g0 ss (k + 1) := by
  funext s
  by_cases e : s = nmAt ss k
  · subst e
    rw [gput_same]
    have : nmAt ss k ∈ ds ss (k + 1) := (ds_mem ss _ _).2 ⟨k, by omega, rfl⟩
    simp [g0, hasS_iff, this]
  · rw [gput_other _ _ e]
    have : s ∈ ds ss (k + 1) ↔ s ∈ ds ss k := by
      rw [ds_mem, ds_mem]
      constructor
      · rintro ⟨j, hj, h⟩
        rcases Nat.lt_or_ge j k with h2 | h2
        · exact ⟨j, h2, h⟩
        · obtain rfl : j = k := by omega
          exact absurd h.symm e
      · rintro ⟨j, hj, h⟩
        exact ⟨j, by omega, h⟩
    have hb : hasS s (ds ss (k + 1)) = hasS s (ds ss k) := by
      rw [Bool.eq_iff_iff, hasS_iff, hasS_iff]
      exact this
    simp only [g0, hb]

/-- how many entries the map has -/
theorem ds_count {w : World} {B kk : Nat} {f : ByteArray → Option Nat} {c : Nat} {ss : List ByteArray} {k : Nat} (h : Wk w B kk f c (g0 ss k)) (hc : c = (ds ss k).length) : (if (f (nmAt ss k)).isSome then c else c + 1) = (ds ss (k + 1)).length := by
  have hiff : (f (nmAt ss k)).isSome = true ↔ nmAt ss k ∈ ds ss k := by
    cases hf : f (nmAt ss k) with
    | none =>
      have := h.gone _ hf
      by_cases hm : nmAt ss k ∈ ds ss k
      · simp [g0, hasS_iff, hm] at this
      · simp [hm]
    | some x =>
      obtain ⟨t, ht, _⟩ := h.here _ _ hf
      by_cases hm : nmAt ss k ∈ ds ss k
      · simp [hm]
      · simp [g0, hasS_iff, hm] at ht
  by_cases hm : nmAt ss k ∈ ds ss k
  · rw [if_pos (hiff.2 hm)]
    simp [ds, hasS_iff, hm, hc]
  · rw [if_neg (fun h => hm (hiff.1 h))]
    simp [ds, hasS_iff, hm, hc]

/-! ### what each taker holds behind c tasks -/
def gv (m c i : Nat) : Nat := c / m + (if i < c % m then 1 else 0)

theorem gv_step (m c i : Nat) (hm : 0 < m) (hi : i < m) : gv m (c + 1) i = gv m c i + (if i = c % m then 1 else 0) := by
  unfold gv
  have hr := Nat.mod_lt c hm
  by_cases h : c % m + 1 < m
  · have e1 : (c + 1) / m = c / m := by
      rw [Nat.succ_div_of_not_dvd]
      intro hd
      have := Nat.mod_eq_zero_of_dvd hd
      have e := Nat.add_mod c 1 m
      rw [this] at e
      rcases Nat.eq_or_lt_of_le (show 1 ≤ m from hm) with h1 | h1
      · omega
      · rw [Nat.mod_eq_of_lt h1, Nat.mod_eq_of_lt h] at e
        omega
    have e2 : (c + 1) % m = c % m + 1 := by
      have hd := Nat.div_add_mod c m
      have hd1 := Nat.div_add_mod (c + 1) m
      rw [e1] at hd1
      omega
    rw [e1, e2]
    by_cases h1 : i = c % m
    · simp [h1]
    · by_cases h2 : i < c % m
      · rw [if_pos (by omega), if_pos h2, if_neg h1]
      · rw [if_neg (by omega), if_neg h2, if_neg h1]
  · have hrm : c % m + 1 = m := by omega
    have hd := Nat.div_add_mod c m
    have e0 : c + 1 = m * (c / m + 1) := by
      rw [Nat.mul_add, Nat.mul_one]
      omega
    have e1 : (c + 1) / m = c / m + 1 := by rw [e0]; exact Nat.mul_div_cancel_left _ hm
    have e2 : (c + 1) % m = 0 := by rw [e0]; exact Nat.mul_mod_right _ _
    rw [e1, e2]
    by_cases h1 : i = c % m
    · simp [h1]
    · rw [if_neg (by omega), if_pos (by omega), if_neg h1]

def rAt (R : List ByteArray) (i : Nat) : ByteArray := R.getD i ByteArray.empty

/-- behind c tasks: taker i holds gv; nobody else is there -/
structure St (R : List ByteArray) (c : Nat) (g : ByteArray → Option Tk) : Prop where
  hat : ∀ i, i < R.length → g (rAt R i) = some ⟨rAt R i, 0, 0, gv R.length c i⟩
  hno : ∀ s, s ∉ R → g s = none

theorem rAt_mem {R : List ByteArray} {i : Nat} (h : i < R.length) : rAt R i ∈ R := by
  unfold rAt
  rw [List.getD_eq_getElem?_getD, List.getElem?_eq_getElem h]
  exact List.getElem_mem h

theorem rAt_of_mem {R : List ByteArray} {s : ByteArray} (h : s ∈ R) : ∃ i, i < R.length ∧ rAt R i = s := by
  obtain ⟨i, hi, e⟩ := List.getElem_of_mem h
  refine ⟨i, hi, ?_⟩
  unfold rAt
  rw [List.getD_eq_getElem?_getD, List.getElem?_eq_getElem hi]
  exact e

theorem rAt_less {R : List ByteArray} (hs : R.Pairwise (fun a b => sLess a b = true)) {i j : Nat} (hij : i < j) (hj : j < R.length) : sLess (rAt R i) (rAt R j) = true := by
  unfold rAt
  rw [List.getD_eq_getElem?_getD, List.getElem?_eq_getElem (by omega), List.getD_eq_getElem?_getD, List.getElem?_eq_getElem hj]
  exact List.pairwise_iff_getElem.1 hs i j (by omega) hj hij

theorem rAt_inj {R : List ByteArray} (hs : R.Pairwise (fun a b => sLess a b = true)) {i j : Nat} (hi : i < R.length) (hj : j < R.length) (e : rAt R i = rAt R j) : i = j := by
  rcases Nat.lt_trichotomy i j with h | h | h
  · have := rAt_less hs h hj
    rw [e, sLess_irrefl] at this
    cases this
  · exact h
  · have := rAt_less hs h hi
    rw [e, sLess_irrefl] at this
    cases this

/-- the least one is the next in turn -/
theorem St.least {R : List ByteArray} (hs : R.Pairwise (fun a b => sLess a b = true)) {c : Nat} {g : ByteArray → Option Tk} (h : St R c g) {s : ByteArray} {t : Tk} (hg : g s = some t) (hmin : ∀ s' t', g s' = some t' → lessT s' t' s t = false) :
    0 < R.length ∧ s = rAt R (c % R.length) ∧ t = ⟨rAt R (c % R.length), 0, 0, gv R.length c (c % R.length)⟩ := by
  have hm : s ∈ R := by
    refine Classical.byContradiction fun hn => ?_
    rw [h.hno s hn] at hg
    cases hg
  obtain ⟨i, hi, rfl⟩ := rAt_of_mem hm
  have hpos : 0 < R.length := by omega
  have hr := Nat.mod_lt c hpos
  have hgi := h.hat i hi
  rw [hg] at hgi
  cases hgi
  have hl := hmin _ _ (h.hat _ hr)
  have hi' : i = c % R.length := by
    rcases Nat.lt_trichotomy i (c % R.length) with h1 | h1 | h1
    · have : lessT (rAt R (c % R.length)) ⟨rAt R (c % R.length), 0, 0, gv R.length c (c % R.length)⟩ (rAt R i) ⟨rAt R i, 0, 0, gv R.length c i⟩ = true := by
        refine lessT_iff.2 (.inl ?_)
        simp only [gv, if_pos h1, Nat.lt_irrefl, if_false]
        omega
      rw [this] at hl
      cases hl
    · exact h1
    · have : lessT (rAt R (c % R.length)) ⟨rAt R (c % R.length), 0, 0, gv R.length c (c % R.length)⟩ (rAt R i) ⟨rAt R i, 0, 0, gv R.length c i⟩ = true := by
        refine lessT_iff.2 (.inr ⟨?_, rAt_less hs h1 hi⟩)
        simp only [gv, Nat.lt_irrefl, if_false]
        rw [if_neg (by omega)]
      rw [this] at hl
      cases hl
  subst hi'
  exact ⟨hpos, rfl, rfl⟩

/-- one task handed over -/
theorem St.step {R : List ByteArray} (hs : R.Pairwise (fun a b => sLess a b = true)) {c : Nat} {g : ByteArray → Option Tk} (h : St R c g) (hpos : 0 < R.length) (hc : c ≤ 4096) :
    St R (c + 1) (gput g (rAt R (c % R.length)) ⟨rAt R (c % R.length), 0, 0, wrap64 (gv R.length c (c % R.length) + 1)⟩) := by
  have hr := Nat.mod_lt c hpos
  refine ⟨fun i hi => ?_, fun s hn => ?_⟩
  · rw [gv_step _ _ _ hpos hi]
    by_cases e : i = c % R.length
    · subst e
      rw [gput_same, if_pos rfl]
      have hle : c / R.length ≤ c := Nat.div_le_self _ _
      have : wrap64 ((gv R.length c (c % R.length) : Int) + 1) = ((gv R.length c (c % R.length) + 1 : Nat) : Int) := by
        have hb : gv R.length c (c % R.length) ≤ 4097 := by
          unfold gv
          split <;> omega
        unfold wrap64
        omega
      rw [this]
    · rw [gput_other _ _ (fun e2 => e (rAt_inj hs hi hr e2)), if_neg e]
      exact h.hat i hi
  · rw [gput_other _ _ (fun e => hn (by rw [e]; exact rAt_mem hr))]
    exact h.hno s hn

theorem St.start (ss : List ByteArray) (len : Nat) : St (sortS (ds ss len)) 0 (g0 ss len) := by
  refine ⟨fun i hi => ?_, fun s hn => ?_⟩
  · have : rAt (sortS (ds ss len)) i ∈ ds ss len := (sortS_mem _ _).1 (rAt_mem hi)
    simp [g0, hasS_iff, this, gv]
  · have : s ∉ ds ss len := fun h => hn ((sortS_mem _ _).2 h)
    simp [g0, hasS_iff, this]

end Go.Proofs.Qxb6604668a
