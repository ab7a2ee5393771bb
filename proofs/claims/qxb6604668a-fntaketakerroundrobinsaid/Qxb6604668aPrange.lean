/-
  'for _, p := range m' over a map from strings to pointers that the call itself has made ('Pmap'), in whatever order: over any program.
  'Prange P k w b r n f c left cnt': block b is the map, block r the loop's iterator; 'left s': is the entry at s still to come? cnt: how many are.
-/
import Derived.Test.Qxb6604668aPmap
import Derived.Maps.RangeWalk
import Derived.Deep.Draws
namespace Go.Proofs.Qxb6604668a
open Go.Maps (Keyed)

def Prange (P : Program) (k : TypeId) (w : World) (b r n : Nat) (f : ByteArray → Option Nat) (c : Nat) (left : ByteArray → Bool) (cnt : Nat) : Prop :=
  ∃ (D : DataW Unit) (lt : Lit → Bool), w.ranges P k ptrElem b r n D lt cnt ∧ (∀ s, s.size ≤ maxLen → D.atKey (keyLit s) .nil = ptrD (f s)) ∧ (∀ s, s.size ≤ maxLen → Maps.has D (keyLit s) = (f s).isSome) ∧ Maps.size D = c ∧
    (∀ s, s.size ≤ maxLen → lt (keyLit s) = left s)

variable {P : Program} {k t e : TypeId} {w w' : World} {b r n c : Nat} {f : ByteArray → Option Nat} {left : ByteArray → Bool} {cnt : Nat}

theorem Prange.pmap (h : Prange P k w b r n f c left cnt) : Pmap P k w b n f c := by
  obtain ⟨D, lt, h1, h2, h3, h4, _⟩ := h
  exact ⟨D, h1.owns, h2, h3, h4⟩

theorem Prange.left_eq (h : Prange P k w b r n f c left cnt) : w.rangeLeft b r = cnt := by
  obtain ⟨D, lt, h1, _⟩ := h
  exact h1.left_eq

theorem Prange.drewN (h : Prange P k w b r n f c left cnt) (m : Nat) : Prange P k (w.drewN m) b r n f c left cnt := h

theorem Prange.lt (h : Prange P k w b r n f c left cnt) : r < w.heap.size := by
  obtain ⟨D, lt, h1, _⟩ := h
  exact h1.lt

/-- the entries still to come behind the one at s -/
def strike (left : ByteArray → Bool) (s : ByteArray) : ByteArray → Bool := fun z => left z && !decide (z = s)

section
variable (w : World) {ops : Array Oper} {rest : List Oper} {o : Oper} {a : Act} {Q : Exit → Act → World → Prop}

theorem wpList_range_pmap (hg : o.guard = none) (m : Operand) (t : TypeId) (hop : o.op = Op.range t m) (k e : TypeId) (hk : P.underlying k = some .string) (ht : P.underlying t = some (.map k e)) (b n : Nat) (f : ByteArray → Option Nat) (c : Nat)
    (hm : a.eval m = .map (some b)) (hown : Pmap P k w b n f c)
    (hK : ∀ w', Prange P k w' b w.heap.size n f c (fun s => (f s).isSome) c → w.grownBy w' none → w'.heap.size = w.heap.size + 1 → wpList P ops Q rest (a.put o.dst (.pointer (some ⟨w.heap.size, 0, none⟩))) w') :
    wpList P ops Q (o :: rest) a w := by
  obtain ⟨D, h1, h2, h3, h4⟩ := hown
  refine wpList_range_own w hg m t hop k e (Maps.string_keyed hk) ht ptrElem b n D hm h1 fun w' hr hgr hsz => hK w' ⟨D, _, ?_, h2, h3, h4, h3⟩ hgr hsz
  rw [← h4]
  exact hr

theorem wpList_next_pmap (hg : o.guard = none) (it : Operand) (hop : o.op = Op.next it false) (k : TypeId) (hk : P.underlying k = some .string) (b r n : Nat) (f : ByteArray → Option Nat) (c : Nat) (left : ByteArray → Bool) (cnt : Nat)
    (hit : a.eval it = .pointer (some ⟨r, 0, none⟩)) (h : Prange P k w b r n f c left cnt)
    (hDone : (∀ s, s.size ≤ maxLen → left s = false) → wpList P ops Q rest (a.put o.dst (.tuple #[.bool false])) w)
    (hMore : ∀ (s : ByteArray) (x : Nat) (w' : World) (cnt' : Nat), s.size ≤ maxLen → left s = true → f s = some x → Prange P k w' b r n f c (strike left s) cnt' → cnt' < cnt → w.grownBy w' (some r) → w'.heap.size = w.heap.size →
      (Instr.entry (.pointer (some ⟨r, 0, none⟩))).run P w' = .ok (.tuple #[.string s, .pointer (some ⟨x, 0, none⟩)]) w' → wpList P ops Q rest (a.put o.dst (.tuple #[.bool true, .string s, .pointer (some ⟨x, 0, none⟩)])) w') :
    wpList P ops Q (o :: rest) a w := by
  obtain ⟨D, lt, h1, h2, h3, h4, h5⟩ := h
  refine wpList_plain hg fun K' hK' => ?_
  unfold Oper.wp
  rcases h1.next (Maps.string_keyed hk) o.type with ⟨h0, hl, hrun⟩ | ⟨key, v, kl, y, w', cnt', hkey, hlk, hv, hat, hrun, hrg, hlt, hgr, hsz, hen⟩
  · simp [execOp, hop, hit, hrun, Result.andThen]
    exact hK' _ _ (hDone fun s hs => by rw [← h5 s hs]; exact hl _)
  · obtain ⟨s, rfl, rfl, hs⟩ := WideMaps.string_of_keyOf hk hkey
    have hsome : (f s).isSome = true := by rw [← h3 s hs]; exact Maps.has_true_of_atKey hat
    obtain ⟨x, hx⟩ := Option.isSome_iff_exists.1 hsome
    have hy : y.1 = ptrD (some x) := by rw [← hat .nil, ← hx]; exact h2 s hs
    have hv' : ptrElem v = some (ptrD (some x), y.2) := by rw [hv, ← hy]
    obtain rfl := ptrElem_inv hv'
    simp [execOp, hop, hit, hrun, Result.andThen]
    refine hK' _ _ (hMore s x w' cnt' hs (by rw [← h5 s hs]; exact hlk) hx ⟨D, _, hrg, h2, h3, h4, fun z hz => ?_⟩ hlt hgr hsz hen)
    show (lt (keyLit z) && !(keyLit z).sameKey (keyLit s)) = strike left s z
    unfold strike
    rw [h5 z hz]
    by_cases e : z = s
    · subst e
      rw [WideAt.sameKey_self (isKey z)]
      simp
    · rw [Maps.sameKey_ne (keyLit_ne e)]
      simp [e]
end
end Go.Proofs.Qxb6604668a
