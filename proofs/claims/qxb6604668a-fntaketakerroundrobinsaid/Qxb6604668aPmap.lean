/-
  A MAP FROM STRINGS TO POINTERS THAT THE CALL ITSELF HAS MADE, SEEN AS A PLAIN FUNCTION: over any program. No Go text here.
  'Pmap P k w b n f c': block b of w is a map keyed by strings (type k), of at most n entries; at key s it holds a pointer to the head of block 'f s' (none: no entry); c entries.
-/
import Derived.WalkKit
import Derived.Maps.OwnSet
import Derived.StringKeys
namespace Go.Proofs.Qxb6604668a
open Go.Maps (Keyed)
open Go.ChangeMaps (setBlock)

/-- How a pointer to the head of a block reads: the block's number. -/
def ptrElem (v : Value) : Option (DataW Unit × List MemPlace) :=
  match v with
  | .pointer none => some (.nil, [])
  | .pointer (some ⟨b, 0, none⟩) => some (.lit (.int .i64 b), [])
  | _ => none

def ptrOf (o : Option Nat) : Value := .pointer (o.map fun b => ⟨b, 0, none⟩)
def ptrD (o : Option Nat) : DataW Unit :=
  match o with
  | none => .nil
  | some b => .lit (.int .i64 b)

theorem ptrElem_mk (o : Option Nat) : ptrElem (ptrOf o) = some (ptrD o, []) := by
  cases o <;> rfl

theorem ptrD_inj {a b : Option Nat} (h : ptrD a = ptrD b) : a = b := by
  cases a <;> cases b <;> simp [ptrD] at h ⊢
  omega

theorem ptrElem_inv {v : Value} {o : Option Nat} {ps : List MemPlace} (h : ptrElem v = some (ptrD o, ps)) : v = ptrOf o := by
  unfold ptrElem at h
  split at h
  · simp only [Option.some.injEq, Prod.mk.injEq] at h
    have := ptrD_inj (a := none) (b := o) h.1
    subst this
    rfl
  · rename_i b
    simp only [Option.some.injEq, Prod.mk.injEq] at h
    have := ptrD_inj (a := some b) (b := o) h.1
    subst this
    rfl
  · cases h

/-- What a string reads as, as a key. -/
def keyLit (s : ByteArray) : Lit := .string s.data.toList

theorem keyLit_inj {a b : ByteArray} (h : keyLit a = keyLit b) : a = b := by
  unfold keyLit at h
  injection h with h
  cases a; cases b
  simp at h
  subst h
  rfl

theorem keyLit_ne {a b : ByteArray} (h : a ≠ b) : keyLit a ≠ keyLit b := fun e => h (keyLit_inj e)

/-- A block that is a map keyed by strings, its elements pointers to heads of blocks: as a function. -/
def Pmap (P : Program) (k : TypeId) (w : World) (b n : Nat) (f : ByteArray → Option Nat) (c : Nat) : Prop :=
  ∃ D : DataW Unit, w.ownsMap P k ptrElem b n D ∧ (∀ s, s.size ≤ maxLen → D.atKey (keyLit s) .nil = ptrD (f s)) ∧ (∀ s, s.size ≤ maxLen → Maps.has D (keyLit s) = (f s).isSome) ∧ Maps.size D = c

variable {P : Program} {k t e : TypeId} {w w' : World} {b n c : Nat} {f : ByteArray → Option Nat}

theorem Pmap.made (w : World) : Pmap P k (w.alloc (.map #[] 0)) w.heap.size 0 (fun _ => none) 0 :=
  ⟨_, World.ownsMap_made w P k ptrElem, fun _ _ => rfl, fun _ _ => rfl, rfl⟩

theorem Pmap.kept {row : Option Nat} (h : Pmap P k w b n f c) (hg : w.grownBy w' row) (hne : some b ≠ row) : Pmap P k w' b n f c := by
  obtain ⟨D, h1, h2⟩ := h
  exact ⟨D, h1.kept hg hne, h2⟩

theorem Pmap.alloc (h : Pmap P k w b n f c) (o : Obj) : Pmap P k (w.alloc o) b n f c := by
  obtain ⟨D, h1, h2⟩ := h
  exact ⟨D, h1.alloc o, h2⟩

theorem Pmap.drew (h : Pmap P k w b n f c) : Pmap P k w.drew b n f c := h

theorem Pmap.setCell (h : Pmap P k w b n f c) {a : Addr} (ha : b ≠ a.block) (u : Value) : Pmap P k (w.setCell a u) b n f c := by
  obtain ⟨D, h1, h2⟩ := h
  exact ⟨D, h1.setCell ha u, h2⟩

theorem Pmap.below {B : Nat} (h : Pmap P k w b n f c) (hb : RowKit.Below B w w') (hB : b < B) : Pmap P k w' b n f c := by
  obtain ⟨D, ⟨es, clock, h0, h1⟩, h2⟩ := h
  exact ⟨D, ⟨es, clock, (hb.block b hB).trans h0, h1⟩, h2⟩

theorem Pmap.lt (h : Pmap P k w b n f c) : b < w.heap.size := by
  obtain ⟨D, h1, _⟩ := h
  exact h1.lt

/-- one entry more, or one entry's element turned. -/
def put (f : ByteArray → Option Nat) (s : ByteArray) (x : Nat) : ByteArray → Option Nat := fun s' => if s' = s then some x else f s'

theorem put_same (f : ByteArray → Option Nat) (s : ByteArray) (x : Nat) : put f s x s = some x := by simp [put]
theorem put_other (f : ByteArray → Option Nat) {s s' : ByteArray} (x : Nat) (h : s' ≠ s) : put f s x s' = f s' := by simp [put, h]

theorem isKey (s : ByteArray) : WideAt.IsKeyLit (keyLit s) := trivial

theorem Pmap.of_put {D : DataW Unit} (s : ByteArray) (x : Nat) (h1 : w'.ownsMap P k ptrElem b (n + 1) (D.put (keyLit s) (ptrD (some x)))) (hm : Maps.IsMap D) (ht : Maps.Tidy D) (hs : s.size ≤ maxLen)
    (h2 : ∀ s, s.size ≤ maxLen → D.atKey (keyLit s) .nil = ptrD (f s)) (h3 : ∀ s, s.size ≤ maxLen → Maps.has D (keyLit s) = (f s).isSome) (h4 : Maps.size D = c) :
    Pmap P k w' b (n + 1) (put f s x) (if (f s).isSome then c else c + 1) := by
  refine ⟨_, h1, fun s' hs' => ?_, fun s' hs' => ?_, ?_⟩
  · by_cases e : s' = s
    · subst e
      rw [put_same, Maps.atKey_put_same hm (isKey _)]
    · rw [put_other _ _ e, Maps.atKey_put_other (keyLit_ne e), h2 _ hs']
  · by_cases e : s' = s
    · subst e
      rw [put_same, Maps.has_put_same hm (isKey _)]
      rfl
    · rw [put_other _ _ e, Maps.has_put_other (keyLit_ne e), h3 _ hs']
  · rw [Maps.size_put ht, h3 _ hs, h4]

section
variable (w : World) {ops : Array Oper} {rest : List Oper} {o : Oper} {a : Act} {Q : Exit → Act → World → Prop}

/-- 'm[s]' at the operation. -/
theorem wpList_lookup_pmap (hg : o.guard = none) (m x : Operand) (t : TypeId) (hop : o.op = Op.lookup t m x false) (k e : TypeId) (hk : P.underlying k = some .string) (ht : P.underlying t = some (.map k e))
    (hz : (zeroValue e).run P w = .ok (.pointer none) w) (b n : Nat) (f : ByteArray → Option Nat) (c : Nat) (hm : a.eval m = .map (some b)) (hown : Pmap P k w b n f c) (s : ByteArray) (hx : a.eval x = .string s) (hs : s.size ≤ maxLen) (u : Value) (hu : ptrOf (f s) = u)
    (hK : wpList P ops Q rest (a.put o.dst u) w) : wpList P ops Q (o :: rest) a w := by
  subst hu
  obtain ⟨D, h1, h2, _⟩ := hown
  refine wpList_plain hg fun K' hK' => ?_
  obtain ⟨v, ps, hrun, hv⟩ := h1.lookup (Maps.string_keyed hk) ht hz (zd := .nil) (zp := []) rfl (WideMaps.keyOf_string_mk hk hs)
  have hv' : ptrElem v = some (ptrD (f s), ps) := by rw [hv]; exact congrArg (fun d => some (d, ps)) (h2 s hs)
  obtain rfl := ptrElem_inv hv'
  unfold Oper.wp
  simp [execOp, hop, hm, hx, hrun, Result.andThen]
  exact hK' _ _ hK

/-- 'm[s] = p' at the operation. -/
theorem wpList_update_pmap (hg : o.guard = none) (m x v : Operand) (t : TypeId) (hop : o.op = Op.mapUpdate t m x v) (k e : TypeId) (hk : P.underlying k = some .string) (ht : P.underlying t = some (.map k e))
    (b n : Nat) (f : ByteArray → Option Nat) (c : Nat) (hm : a.eval m = .map (some b)) (hown : Pmap P k w b n f c) (hn : n < maxLen) (s : ByteArray) (hx : a.eval x = .string s) (hs : s.size ≤ maxLen) (y : Nat) (hv : a.eval v = .pointer (some ⟨y, 0, none⟩))
    (hK : ∀ w', Pmap P k w' b (n + 1) (put f s y) (if (f s).isSome then c else c + 1) → w.grownBy w' (some b) → wpList P ops Q rest (a.put o.dst undef) w') : wpList P ops Q (o :: rest) a w := by
  obtain ⟨D, h1, h2, h3, h4⟩ := hown
  refine wpList_plain hg fun K' hK' => ?_
  obtain ⟨w', hrun, r1, r2⟩ := h1.update (Maps.string_keyed hk) ht hn (WideMaps.keyOf_string_mk hk hs) (val := .pointer (some ⟨y, 0, none⟩)) (d := ptrD (some y)) (ps := []) rfl
  unfold Oper.wp
  simp [execOp, hop, hm, hx, hv, hrun, Result.andThen]
  exact hK' _ _ (hK w' (Pmap.of_put s y r1 h1.isMap (h1.tidy (Maps.string_keyed hk)) hs h2 h3 h4) r2)

/-- 'len(m)' at the operation. -/
theorem wpList_len_pmap (hg : o.guard = none) (m : Operand) (t : TypeId) (hop : o.op = Op.call { callee := Callee.builtin Builtin.len, args := #[m], argTypes := #[t] }) (k e : TypeId) (ht : P.underlying t = some (.map k e))
    (b n : Nat) (f : ByteArray → Option Nat) (c : Nat) (hm : a.eval m = .map (some b)) (hown : Pmap P k w b n f c)
    (hK : wpList P ops Q rest (a.put o.dst (.int .i64 c)) w) : wpList P ops Q (o :: rest) a w := by
  obtain ⟨D, h1, _, _, rfl⟩ := hown
  exact wpList_len_own w hg m t hop k e ht ptrElem b n D hm h1 hK

end

/-! ### strings compared -/
theorem str_inj {a b : ByteArray} (h : a.toList = b.toList) : a = b := by
  rw [ByteArray.toList_eq, ByteArray.toList_eq] at h
  exact WideShapes.bytes_inj h
theorem str_ne {a b : ByteArray} (h : a ≠ b) : (a.toList == b.toList) = false := beq_eq_false_iff_ne.2 fun e => h (str_inj e)
theorem str_eq {a b : ByteArray} (h : (a.toList == b.toList) = true) : a = b := str_inj (beq_iff_eq.1 h)

/-! ### a block of cells, written out -/
theorem cell_in {w : World} {b i : Nat} {vs : Array Value} {t : TypeId} (h : w.heap[b]? = some (.cells vs t (0, 0))) : w.cell? ⟨b, i, none⟩ = vs[i]? := by simp [World.cell?, h]
theorem free_in {w : World} {b i : Nat} {vs : Array Value} {t : TypeId} (h : w.heap[b]? = some (.cells vs t (0, 0))) : w.frozen? ⟨b, i, none⟩ = false := by simp [World.frozen?, h]

end Go.Proofs.Qxb6604668a
