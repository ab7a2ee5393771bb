/-
  A worker that the call itself has made, with its takers, as one word over the world ('Wk'), and the contracts of ZZnewWorker (23), (*atomic.Int32).Store (33), ZZworkerAddTaker (24), ZZworkerGiven (25), ZZworkerTakers (28).
-/
import Derived.Test.Qxb6604668aRows
import Derived.Test.Qxb6604668aPmap
import Derived.Test.Qxb6604668aMem
import Derived.Test.Qxb6604668aPrange
import Derived.WalkKit
import Derived.ProofKit
import Derived.WalkLawsBesides
import Derived.BigQuiet
import Derived.Deep.QuietTactic
import Derived.Deep.RegionWith
import Derived.Laws.LoneSync
namespace Go.Proofs.Qxb6604668a
open Go.ChangeShapes Go.WideShapes Go.ChangeAt Go.RowKit

theorem zero99 (w : World) : (zeroValue 99).run Try.prog w = .ok (.pointer none) w := by kernel_rfl

/-- what a taker holds beside its name -/
structure Tk where
  key : ByteArray
  rev : Int
  lease : Int
  given : Int

def tkObj (s : ByteArray) (t : Tk) : Obj := .cells #[.string s, .string t.key, .int .i64 t.rev, .int .i64 t.lease, .int .i64 t.given] 103

/-- the worker's twenty-five cells: nt takers counted, the lock's state st, the takers' map in block B -/
def wkObj (B : Nat) (nt st : Int) : Obj :=
  .cells #[.string ByteArray.empty, .string ByteArray.empty, .int .i64 0, .map none, .nilIface, .pointer none, .string ByteArray.empty, .pointer none, .nilIface, .pointer none, .chan none, .chan none, .chan none, .chan none,
    .int .i64 0, .int .u32 0, .int .u32 0, .int .i32 0, .int .i32 nt, .int .i32 st, .int .u32 0, .map none, .map (some B), .map none, .map none] 98

structure Wk (w : World) (B kk : Nat) (f : ByteArray → Option Nat) (c : Nat) (g : ByteArray → Option Tk) : Prop where
  pm : Pmap Try.prog 9 w B kk f c
  st : ∃ nt, w.heap[B + 1]? = some (wkObj B nt 0)
  here : ∀ s x, f s = some x → ∃ t, g s = some t ∧ w.heap[x]? = some (tkObj s t)
  gone : ∀ s, f s = none → g s = none
  fits : ∀ s x, f s = some x → s.size ≤ maxLen
  above : ∀ s x, f s = some x → B + 1 < x

/-- blocks of cells of other types than the worker's and the takers' are kept -/
def KeptC (w w' : World) : Prop := ∀ (i : Nat) (vs : Array Value) (t : TypeId), w.heap[i]? = some (.cells vs t (0, 0)) → t ≠ 98 → t ≠ 103 → w'.heap[i]? = some (.cells vs t (0, 0))

theorem KeptC.refl (w : World) : KeptC w w := fun _ _ _ h _ _ => h
theorem KeptC.trans {a b c : World} (h : KeptC a b) (k : KeptC b c) : KeptC a c := fun i vs t hh h1 h2 => k i vs t (h i vs t hh h1 h2) h1 h2
theorem KeptC.drewN {a b : World} (h : KeptC a b) (n : Nat) : KeptC a (b.drewN n) := h

/-- one taker more, or one taker turned -/
def gput (g : ByteArray → Option Tk) (s : ByteArray) (t : Tk) : ByteArray → Option Tk := fun s' => if s' = s then some t else g s'
theorem gput_same (g : ByteArray → Option Tk) (s : ByteArray) (t : Tk) : gput g s t s = some t := by simp [gput]
theorem gput_other (g : ByteArray → Option Tk) {s s' : ByteArray} (t : Tk) (h : s' ≠ s) : gput g s t s' = g s' := by simp [gput, h]

theorem newWorker (w : World) : Calls Try.prog 23 #[] w fun e w' => e = .returned (.pointer (some ⟨w.heap.size + 1, 0, none⟩)) ∧ w' = (w.alloc (.map #[] 0)).alloc (wkObj w.heap.size 0 0) := by
  have hmm := @run_makeMap Try.prog
  go_enter Try.func23, Try.ntmps23
  go_wp2
  go_ret
  exact ⟨rfl, rfl⟩

theorem wk_made (w : World) : Calls Try.prog 23 #[] w fun e w' => e = .returned (.pointer (some ⟨w.heap.size + 1, 0, none⟩)) ∧ Wk w' w.heap.size 0 (fun _ => none) 0 (fun _ => none) ∧ Below w.heap.size w w' ∧ w'.heap.size = w.heap.size + 2 := by
  refine (newWorker w).mono ?_
  rintro e w' ⟨rfl, rfl⟩
  refine ⟨rfl, ⟨(Pmap.made w).alloc _, ⟨0, ?_⟩, (fun s x h => by cases h), fun _ _ => rfl, (fun s x h => by cases h), (fun s x h => by cases h)⟩, ((Below.refl _ _).alloc (Nat.le_refl _) _).alloc (by simp) _, by simp⟩
  have e1 : (w.alloc (.map #[] 0)).heap.size = w.heap.size + 1 := by simp
  rw [← e1]
  exact heap_alloc_new _ _

theorem store36 (a : Addr) (u : Value) (y : Int) (w : World) (hc : w.cell? a = some u) (hz : w.frozen? a = false) : (callFunc 36 #[.pointer (some a), .int .i32 y]).run Try.prog w = .ok (.value (.tuple #[])) (w.setCell a (.int .i32 y)) :=
  run_call_store Try.func36 (by kernel_rfl) (by kernel_rfl) (by kernel_rfl) (by kernel_rfl) hc hz

theorem store33 (b o : Nat) (u : Value) (y : Int) (w : World) (hc : w.cell? ⟨b, o, none⟩ = some u) (hz : w.frozen? ⟨b, o, none⟩ = false) :
    Calls Try.prog 33 #[.pointer (some ⟨b, o, none⟩), .int .i32 y] w fun e w' => e = .returned (.tuple #[]) ∧ w' = w.setCell ⟨b, o, none⟩ (.int .i32 y) := by
  have hs := store36 ⟨b, o, none⟩ u y w hc hz
  go_enter Try.func33, Try.ntmps33
  go_wp2
  go_end0
  exact ⟨rfl, rfl⟩

section
variable {w : World} {B kk : Nat} {f : ByteArray → Option Nat} {c : Nat} {g : ByteArray → Option Tk}

theorem Wk.cellMap (h : Wk w B kk f c g) : w.cell? ⟨B + 1, 22, none⟩ = some (.map (some B)) := by
  obtain ⟨nt, hst⟩ := h.st
  rw [cell_in hst]; rfl

theorem Wk.lt (h : Wk w B kk f c g) : B + 1 < w.heap.size := by
  obtain ⟨nt, hst⟩ := h.st
  exact lt_of_block hst

theorem Wk.drewN (h : Wk w B kk f c g) (m : Nat) : Wk (w.drewN m) B kk f c g := ⟨h.pm, h.st, h.here, h.gone, h.fits, h.above⟩

theorem wk_count (h : Wk w B kk f c g) : Calls Try.prog 28 #[.pointer (some ⟨B + 1, 0, none⟩)] w fun e w' => e = .returned (.int .i64 c) ∧ w' = w := by
  have c3 := h.cellMap
  have hp := h.pm
  clear h
  go_enter Try.func28, Try.ntmps28
  go_wp2_with (at_len; refine wpList_len_pmap _ rfl _ 67 rfl 9 99 Try.underlying67 B kk f c rfl hp ?_)
  go_ret
  exact ⟨rfl, rfl⟩

theorem wk_given (h : Wk w B kk f c g) {s : ByteArray} (hs : s.size ≤ maxLen) {t : Tk} (ht : g s = some t) :
    Calls Try.prog 25 #[.pointer (some ⟨B + 1, 0, none⟩), .string s] w fun e w' => e = .returned (.tuple #[.int .i64 t.given, .bool true]) ∧ w' = w := by
  have c3 := h.cellMap
  have hp := h.pm
  obtain ⟨x, hf⟩ : ∃ x, f s = some x := by
    cases hfs : f s with
    | none => rw [h.gone s hfs] at ht; cases ht
    | some x => exact ⟨x, rfl⟩
  obtain ⟨t', ht', hx⟩ := h.here s x hf
  rw [ht] at ht'
  cases ht'
  have c4 := cell_in (i := 4) hx
  simp at c4
  have HU : Hid (ptrOf (f s) = .pointer (some ⟨x, 0, none⟩)) := show ptrOf (f s) = .pointer (some ⟨x, 0, none⟩) by rw [hf]; rfl
  clear h ht hf hx
  go_enter Try.func25, Try.ntmps25
  go_wp2_with (at_lookup; refine wpList_lookup_pmap _ rfl _ _ 67 rfl 9 99 Try.underlying9 Try.underlying67 (zero99 _) B kk f c rfl hp s rfl hs _ HU.out ?_)
  go_ret2
  exact ⟨rfl, rfl⟩
end

/-- what ZZworkerAddTaker leaves -/
structure Added (w : World) (B kk : Nat) (f : ByteArray → Option Nat) (c : Nat) (g : ByteArray → Option Tk) (s : ByteArray) (t : Tk) (w' : World) : Prop where
  wk : Wk w' B (kk + 1) (put f s w.heap.size) (if (f s).isSome then c else c + 1) (gput g s t)
  kept : KeptC w w'
  below : Below B w w'

def AddedRaw (B kk c : Nat) (f : ByteArray → Option Nat) (s : ByteArray) (t : Tk) (w w' : World) : Prop :=
  ∃ w1 m y, (w.alloc (tkObj s t)).grownBy w1 (some B) ∧ Pmap Try.prog 9 w1 B (kk + 1) (put f s w.heap.size) (if (f s).isSome then c else c + 1) ∧ w' = (w1.setCell ⟨B + 1, 18, none⟩ (.int .i32 y)).drewN m

set_option maxHeartbeats 1000000 in
theorem addTaker_raw (B kk c : Nat) (f : ByteArray → Option Nat) (s : ByteArray) (t : Tk) (nt : Int) (w : World) (hst : w.heap[B + 1]? = some (wkObj B nt 0)) (hp : Pmap Try.prog 9 w B kk f c) (hs : s.size ≤ maxLen) (hn : kk < maxLen) :
    Calls Try.prog 24 #[.pointer (some ⟨B + 1, 0, none⟩), .string s, .string t.key, .int .i64 t.rev, .int .i64 t.lease, .int .i64 t.given] w fun e w' => e = .returned (.tuple #[]) ∧ AddedRaw B kk c f s t w w' := by
  have c22 : w.cell? ⟨B + 1, 22, none⟩ = some (.map (some B)) := by rw [cell_in hst]; rfl
  have hlt : B + 1 < w.heap.size := lt_of_block hst
  have hp1 := hp.alloc (tkObj s t)
  have HST : Hid (w.heap[B + 1]? = some (wkObj B nt 0)) := hst
  unfold tkObj at hp1
  clear hst
  go_enter Try.func24, Try.ntmps24
  go_wp2_with (at_mapUpdate; refine wpList_update_pmap _ rfl _ _ _ 67 rfl 9 99 Try.underlying9 Try.underlying67 B kk f c rfl hp1 hn s rfl hs w.heap.size rfl ?_; intro w1 hp2 hg1; go_frame)
  have hst1 : w1.heap[B + 1]? = some (wkObj B nt 0) := (hg1.block (B + 1) (by simp; omega) (by simp)).trans ((Below.heap_alloc _ _ _ hlt).trans HST.out)
  have c22' : w1.cell? ⟨B + 1, 22, none⟩ = some (.map (some B)) := by rw [cell_in hst1]; rfl
  have c18' : w1.cell? ⟨B + 1, 18, none⟩ = some (.int .i32 nt) := by rw [cell_in hst1]; rfl
  have f18' : w1.frozen? ⟨B + 1, 18, none⟩ = false := free_in hst1
  have hlen : ∀ ty, (Builtin.len_ #[67] ty #[.map (some B)]).run Try.prog w1.drew = .ok (.int .i64 (if (f s).isSome then c else c + 1 : Nat)) w1.drew := fun ty => by
    obtain ⟨D, h1, _, _, h4⟩ := hp2
    have := (show w1.drew.ownsMap Try.prog 9 ptrElem B (kk + 1) D from h1).len Try.underlying67 ty
    rw [h4] at this
    exact this
  have HP2 : Hid (Pmap Try.prog 9 w1 B (kk + 1) (put f s w.heap.size) (if (f s).isSome then c else c + 1)) := hp2
  have HG1 : Hid ((w.alloc (tkObj s t)).grownBy w1 (some B)) := hg1
  clear hp2 hg1 hp1 hp HST hst1 c22
  generalize hc' : (if (f s).isSome then c else c + 1 : Nat) = c' at hlen HP2
  have HC : Hid ((if (f s).isSome then c else c + 1 : Nat) = c') := hc'
  clear hc'
  go_region_with (go_at_call 33; refine (store33 (B + 1) 18 (.int .i32 nt) _ _ (by exact c18') (by exact f18')).mono ?_; rintro e w' ⟨rfl, rfl⟩)
  go_wp2
  go_end0
  exact ⟨rfl, w1, 1, _, HG1.out, (by rw [HC.out]; exact HP2.out), rfl⟩

theorem wk_add {w : World} {B kk : Nat} {f : ByteArray → Option Nat} {c : Nat} {g : ByteArray → Option Tk} (h : Wk w B kk f c g) {s : ByteArray} (hs : s.size ≤ maxLen) (hn : kk < maxLen) (key : ByteArray) (rev lease given : Int) :
    Calls Try.prog 24 #[.pointer (some ⟨B + 1, 0, none⟩), .string s, .string key, .int .i64 rev, .int .i64 lease, .int .i64 given] w fun e w' => e = .returned (.tuple #[]) ∧ Added w B kk f c g s ⟨key, rev, lease, given⟩ w' := by
  obtain ⟨nt, hst⟩ := h.st
  refine (addTaker_raw B kk c f s ⟨key, rev, lease, given⟩ nt w hst h.pm hs hn).mono ?_
  rintro e w' ⟨rfl, w1, m, y, hg, hp, rfl⟩
  have hB1 := h.lt
  have hz : (w.alloc (tkObj s ⟨key, rev, lease, given⟩)).heap.size = w.heap.size + 1 := by simp
  -- old blocks but the map's
  have old1 : ∀ i, i < w.heap.size → i ≠ B → w1.heap[i]? = w.heap[i]? := fun i hi hne =>
    (hg.block i (by omega) (by simpa using hne)).trans (Below.heap_alloc _ _ _ hi)
  have new1 : w1.heap[w.heap.size]? = some (tkObj s ⟨key, rev, lease, given⟩) :=
    (hg.block w.heap.size (by omega) (by simp; omega)).trans (heap_alloc_new _ _)
  have far : ∀ i, i ≠ B + 1 → ((w1.setCell ⟨B + 1, 18, none⟩ (.int .i32 y)).drewN m).heap[i]? = w1.heap[i]? := fun i hi => Below.heap_setCell _ _ _ _ hi
  have hst1 : w1.heap[B + 1]? = some (wkObj B nt 0) := (old1 (B + 1) hB1 (by omega)).trans hst
  have neB : ∀ s' x, f s' = some x → x ≠ B := fun s' x hx e => by
    obtain ⟨t', _, ht⟩ := h.here s' x hx
    obtain ⟨D, ⟨es, clock, h1, _⟩, _⟩ := h.pm
    rw [e, h1] at ht
    cases ht
  have neB1 : ∀ s' x, f s' = some x → x ≠ B + 1 := fun s' x hx e => by
    obtain ⟨t', _, ht⟩ := h.here s' x hx
    rw [e, hst] at ht
    simp [wkObj, tkObj] at ht
  refine ⟨rfl, ⟨⟨hp.setCell (by simp) _, ⟨y, block_setCell hst1 _⟩, fun s' x hx => ?_, fun s' hx => ?_, fun s' x hx => ?_, fun s' x hx => ?_⟩, fun i vs t hh h98 h103 => ?_, ?_⟩⟩
  · by_cases e : s' = s
    · subst e
      rw [put_same] at hx
      cases hx
      exact ⟨_, gput_same _ _ _, (far _ (by omega)).trans new1⟩
    · rw [put_other _ _ e] at hx
      obtain ⟨t', hg', ht⟩ := h.here s' x hx
      exact ⟨t', by rw [gput_other _ _ e]; exact hg', (far _ (neB1 s' x hx)).trans ((old1 x (lt_of_block ht) (neB s' x hx)).trans ht)⟩
  · by_cases e : s' = s
    · subst e
      rw [put_same] at hx
      cases hx
    · rw [put_other _ _ e] at hx
      rw [gput_other _ _ e]
      exact h.gone s' hx
  · by_cases e : s' = s
    · subst e
      exact hs
    · rw [put_other _ _ e] at hx
      exact h.fits s' x hx
  · by_cases e : s' = s
    · subst e
      rw [put_same] at hx
      cases hx
      exact hB1
    · rw [put_other _ _ e] at hx
      exact h.above s' x hx
  · have i1 : i ≠ B + 1 := fun e => by
      rw [e, hst] at hh
      simp [wkObj] at hh
      exact h98 hh.2.symm
    have i2 : i ≠ B := fun e => by
      obtain ⟨D, ⟨es, clock, h1, _⟩, _⟩ := h.pm
      rw [e, h1] at hh
      cases hh
    exact (far i i1).trans ((old1 i (lt_of_block hh) i2).trans hh)
  · refine below_drewN (Below.setCell ?_ (by simp) _) m
    refine ⟨hg.os, hg.tape, hg.output, by have := hg.size; omega, fun i hi => old1 i (by omega) (by omega)⟩

end Go.Proofs.Qxb6604668a
