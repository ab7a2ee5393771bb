/-
  THE CONTRACT of (*worker).takeTaker (34): of the takers that are there it picks the least by (given, name), in whatever order the map is ranged over.
-/
import Derived.Test.Qxb6604668aWorker
import Derived.Test.Qxb6604668aLocks
import Derived.Test.Qxb6604668aLess
import Derived.Conc.MuLone
import Derived.Defers
namespace Go.Proofs.Qxb6604668a
open Go.ChangeShapes Go.WideShapes Go.ChangeAt Go.RowKit Go.MuLone

/-- is (s, t) before (s0, t0): fewer given, or as many and the name is less? -/
def lessT (s : ByteArray) (t : Tk) (s0 : ByteArray) (t0 : Tk) : Bool := decide (t.given < t0.given) || ((t.given == t0.given) && Op.bytesLess s.toList s0.toList)

/-- what the loop has picked so far -/
def Picked (f : ByteArray → Option Nat) (g : ByteArray → Option Tk) (left : ByteArray → Bool) (v : Value) : Prop :=
  (v = .pointer none ∧ ∀ s, (f s).isSome = true → left s = true) ∨
  ∃ s0 x0 t0, v = .pointer (some ⟨x0, 0, none⟩) ∧ f s0 = some x0 ∧ g s0 = some t0 ∧ ∀ s t, g s = some t → left s = false → lessT s t s0 t0 = false

/-- what takeTaker leaves -/
def Taken (B kk : Nat) (f : ByteArray → Option Nat) (c : Nat) (g : ByteArray → Option Tk) (w : World) (e : Ending) (w' : World) : Prop :=
  ((∀ s, g s = none) ∧ e = .returned (.tuple #[.agg #[.string ByteArray.empty, .string ByteArray.empty, .int .i64 0, .int .i64 0], .bool false]) ∧ Wk w' B kk f c g ∧ KeptC w w' ∧ Below B w w') ∨
  ∃ s t, g s = some t ∧ (∀ s' t', g s' = some t' → lessT s' t' s t = false) ∧ e = .returned (.tuple #[.agg #[.string s, .string t.key, .int .i64 t.rev, .int .i64 t.lease], .bool true]) ∧
    Wk w' B kk f c (gput g s { t with given := wrap64 (t.given + 1) }) ∧ KeptC w w' ∧ Below B w w'

/-- the zero peer's cells -/
def peerObj (n k : ByteArray) (r l : Int) : Obj := .cells #[.string n, .string k, .int .i64 r, .int .i64 l] 101

/-- the world under the lock: the result's variable lies in block R, the worker's lock is held -/
structure Locked (w : World) (B kk : Nat) (f : ByteArray → Option Nat) (c : Nat) (nt : Int) (R : Nat) (W : World) : Prop where
  pm : Pmap Try.prog 9 W B kk f c
  st : W.heap[B + 1]? = some (wkObj B nt 1)
  res : W.heap[R]? = some (peerObj ByteArray.empty ByteArray.empty 0 0)
  old : ∀ i, i < w.heap.size → i ≠ B + 1 → W.heap[i]? = w.heap[i]?
  size : W.heap.size = w.heap.size + 1
  below : Below B w W

theorem locked {w : World} {B kk : Nat} {f : ByteArray → Option Nat} {c : Nat} {g : ByteArray → Option Tk} {nt : Int} (h : Wk w B kk f c g) (hst : w.heap[B + 1]? = some (wkObj B nt 0)) :
    Locked w B kk f c nt w.heap.size ((w.alloc (peerObj ByteArray.empty ByteArray.empty 0 0)).setCell ⟨B + 1, 19, none⟩ (.int .i32 1)) := by
  have hlt := h.lt
  have e1 : (w.alloc (peerObj ByteArray.empty ByteArray.empty 0 0)).heap[B + 1]? = some (wkObj B nt 0) := (Below.heap_alloc _ _ _ hlt).trans hst
  refine ⟨(h.pm.alloc _).setCell (by simp) _, block_setCell e1 _, ?_, fun i hi hne => ?_, by simp [World.setCell], ?_⟩
  · rw [Below.heap_setCell _ _ _ _ (by simp; omega)]
    exact heap_alloc_new _ _
  · rw [Below.heap_setCell _ _ _ _ (by simpa using hne)]
    exact Below.heap_alloc _ _ _ hi
  · exact ((Below.refl _ _).alloc (by omega) _).setCell (by simp) _

theorem lessT_iff {s s0 : ByteArray} {t t0 : Tk} : lessT s t s0 t0 = true ↔ t.given < t0.given ∨ (t.given = t0.given ∧ sLess s s0 = true) := by
  unfold lessT sLess
  simp

theorem lessT_false {s s0 : ByteArray} {t t0 : Tk} (h1 : t0.given ≤ t.given) (h2 : t.given = t0.given → sLess s s0 = false) : lessT s t s0 t0 = false := by
  cases h : lessT s t s0 t0 with
  | false => rfl
  | true =>
    rcases lessT_iff.1 h with h | ⟨h, h'⟩
    · omega
    · rw [h2 h] at h'; cases h'

theorem lessT_irrefl (s : ByteArray) (t : Tk) : lessT s t s t = false := lessT_false (Int.le_refl _) fun _ => sLess_irrefl s

theorem lessT_step {s1 s2 s3 : ByteArray} {t1 t2 t3 : Tk} (h1 : lessT s1 t1 s2 t2 = true) (h2 : lessT s3 t3 s2 t2 = false) : lessT s3 t3 s1 t1 = false := by
  cases h : lessT s3 t3 s1 t1 with
  | false => rfl
  | true =>
    have : lessT s3 t3 s2 t2 = true := by
      rw [lessT_iff] at *
      rcases h with h | ⟨h, h'⟩
      · rcases h1 with h1 | ⟨h1, _⟩
        · exact .inl (by omega)
        · exact .inl (by omega)
      · rcases h1 with h1 | ⟨h1, h1'⟩
        · exact .inl (by omega)
        · exact .inr ⟨by omega, sLess_trans h' h1'⟩
    rw [this] at h2
    cases h2

/-- one entry has come: what is picked behind it -/
theorem picked_first {f : ByteArray → Option Nat} {g : ByteArray → Option Tk} {left : ByteArray → Bool} (hno : ∀ s, (f s).isSome = true → left s = true) (hg : ∀ s t, g s = some t → (f s).isSome = true) {s : ByteArray} {x : Nat} {t : Tk} (hf : f s = some x) (ht : g s = some t) :
    Picked f g (strike left s) (.pointer (some ⟨x, 0, none⟩)) := by
  refine .inr ⟨s, x, t, rfl, hf, ht, fun s' t' hg' hl => ?_⟩
  by_cases e : s' = s
  · subst e
    rw [ht] at hg'
    cases hg'
    exact lessT_irrefl _ _
  · simp [strike, e, hno s' (hg s' t' hg')] at hl

/-- the new one is less: it is picked -/
theorem picked_new {f : ByteArray → Option Nat} {g : ByteArray → Option Tk} {left : ByteArray → Bool} {s s0 : ByteArray} {x : Nat} {t t0 : Tk} (hall : ∀ s t, g s = some t → left s = false → lessT s t s0 t0 = false)
    (hf : f s = some x) (ht : g s = some t) (hl : lessT s t s0 t0 = true) : Picked f g (strike left s) (.pointer (some ⟨x, 0, none⟩)) := by
  refine .inr ⟨s, x, t, rfl, hf, ht, fun s' t' hg' hl' => ?_⟩
  by_cases e : s' = s
  · subst e
    rw [ht] at hg'
    cases hg'
    exact lessT_irrefl _ _
  · refine lessT_step hl (hall s' t' hg' ?_)
    simpa [strike, e] using hl'

/-- the new one is not less: what was picked stays -/
theorem picked_stay {f : ByteArray → Option Nat} {g : ByteArray → Option Tk} {left : ByteArray → Bool} {s s0 : ByteArray} {x0 : Nat} {t t0 : Tk} (hall : ∀ s t, g s = some t → left s = false → lessT s t s0 t0 = false)
    (hf0 : f s0 = some x0) (ht0 : g s0 = some t0) (ht : g s = some t) (hl : lessT s t s0 t0 = false) : Picked f g (strike left s) (.pointer (some ⟨x0, 0, none⟩)) := by
  refine .inr ⟨s0, x0, t0, rfl, hf0, ht0, fun s' t' hg' hl' => ?_⟩
  by_cases e : s' = s
  · subst e
    rw [ht] at hg'
    cases hg'
    exact hl
  · exact hall s' t' hg' (by simpa [strike, e] using hl')

/-- the result's variable, stored -/
def peer4 (wr : World) (R : Nat) (n k : ByteArray) (r l : Int) : World := (((wr.setCell ⟨R, 0, none⟩ (.string n)).setCell ⟨R, 1, none⟩ (.string k)).setCell ⟨R, 2, none⟩ (.int .i64 r)).setCell ⟨R, 3, none⟩ (.int .i64 l)

theorem peer4_here {wr : World} {R : Nat} {n0 k0 : ByteArray} {r0 l0 : Int} (h : wr.heap[R]? = some (peerObj n0 k0 r0 l0)) (n k : ByteArray) (r l : Int) : (peer4 wr R n k r l).heap[R]? = some (peerObj n k r l) :=
  block_setCell (block_setCell (block_setCell (block_setCell h _) _) _) _

theorem peer4_other {wr : World} {R i : Nat} (hne : i ≠ R) (n k : ByteArray) (r l : Int) : (peer4 wr R n k r l).heap[i]? = wr.heap[i]? := by
  unfold peer4
  rw [Below.heap_setCell _ _ _ _ hne, Below.heap_setCell _ _ _ _ hne, Below.heap_setCell _ _ _ _ hne, Below.heap_setCell _ _ _ _ hne]

theorem peer4_below {B : Nat} {wr : World} {R : Nat} (hB : B ≤ R) (n k : ByteArray) (r l : Int) : Below B wr (peer4 wr R n k r l) :=
  ((((Below.refl _ _).setCell (p := ⟨R, 0, none⟩) hB _).setCell (p := ⟨R, 1, none⟩) hB _).setCell (p := ⟨R, 2, none⟩) hB _).setCell (p := ⟨R, 3, none⟩) hB _

theorem peer4_pmap {P : Program} {k : TypeId} {wr : World} {R b n c : Nat} {f : ByteArray → Option Nat} (h : Pmap P k wr b n f c) (hne : b ≠ R) (nm ky : ByteArray) (r l : Int) : Pmap P k (peer4 wr R nm ky r l) b n f c :=
  (((h.setCell (a := ⟨R, 0, none⟩) hne _).setCell (a := ⟨R, 1, none⟩) hne _).setCell (a := ⟨R, 2, none⟩) hne _).setCell (a := ⟨R, 3, none⟩) hne _

theorem grown_drewN {a b : World} {row : Option Nat} (h : a.grownBy b row) (n : Nat) : a.grownBy (b.drewN n) row := ⟨h.os, h.tape, h.output, h.size, h.block⟩

/-- behind the lock -/
theorem finish {w W wr W' : World} {B kk : Nat} {f : ByteArray → Option Nat} {c : Nat} {g g' : ByteArray → Option Tk} {nt : Int} (h : Wk w B kk f c g) (L : Locked w B kk f c nt w.heap.size W) (hgw : W.grownBy wr none)
    (hst' : W'.heap[B + 1]? = some (wkObj B nt 0)) (hpm' : Pmap Try.prog 9 W' B kk f c) (hX : ∀ s x, f s = some x → ∃ t, g' s = some t ∧ W'.heap[x]? = some (tkObj s t)) (hg' : ∀ s, f s = none → g' s = none)
    (hoth : ∀ (i : Nat) (vs : Array Value) (t : TypeId), i < w.heap.size → wr.heap[i]? = some (.cells vs t (0, 0)) → t ≠ 98 → t ≠ 103 → W'.heap[i]? = some (.cells vs t (0, 0))) (hbel : Below B wr W') :
    Wk W' B kk f c g' ∧ KeptC w W' ∧ Below B w W' := by
  obtain ⟨nt0, hst0⟩ := h.st
  refine ⟨⟨hpm', ⟨nt, hst'⟩, hX, hg', h.fits, h.above⟩, fun i vs t hh h98 h103 => ?_, ?_⟩
  · have i1 : i ≠ B + 1 := fun e => by
      rw [e, hst0] at hh
      simp [wkObj] at hh
      exact h98 hh.2.symm
    have hi := lt_of_block hh
    refine hoth i vs t hi ?_ h98 h103
    rw [hgw.block i (by rw [L.size]; omega) (by simp), L.old i hi i1, hh]
  · have hB := h.lt
    have b1 : Below B W wr := ⟨hgw.os, hgw.tape, hgw.output, hgw.size, fun i hi => hgw.block i (by have := L.size; omega) (by simp)⟩
    exact (L.below.trans b1).trans hbel

set_option maxHeartbeats 4000000 in
theorem takeTaker {w : World} {B kk : Nat} {f : ByteArray → Option Nat} {c : Nat} {g : ByteArray → Option Tk} (h : Wk w B kk f c g) :
    Calls Try.prog 34 #[.pointer (some ⟨B + 1, 0, none⟩)] w (Taken B kk f c g w) := by
  obtain ⟨nt, hst⟩ := h.st
  have hlt := h.lt
  have c19 : w.cell? ⟨B + 1, 19, none⟩ = some (.int .i32 0) := by rw [cell_in hst]; rfl
  have f19 : w.frozen? ⟨B + 1, 19, none⟩ = false := free_in hst
  have L := locked h hst
  unfold peerObj at L
  have HST : Hid (w.heap[B + 1]? = some (wkObj B nt 0)) := hst
  clear hst
  go_enter_defers Try.func34, Try.ntmps34
  go_wp2_with fail
  refine (lock_free muLib ⟨B + 1, 19, none⟩ _ ((World.cell?_alloc_past _ _ _ hlt).trans c19) (by rw [← f19]; exact World.frozen?_of_block (Below.heap_alloc _ _ _ hlt))).mono ?_
  rintro e w' ⟨rfl, rfl⟩
  have L' : Locked w B kk f c nt w.heap.size ((w.alloc (.cells #[.string ⟨#[]⟩, .string ⟨#[]⟩, .int .i64 0, .int .i64 0] 101)).setCell ⟨B + 1, 19, none⟩ (.int .i32 1)) := L
  clear L c19 f19
  generalize ((w.alloc (.cells #[.string ⟨#[]⟩, .string ⟨#[]⟩, .int .i64 0, .int .i64 0] 101)).setCell ⟨B + 1, 19, none⟩ (.int .i32 1)) = W at L' ⊢
  have c22 : W.cell? ⟨B + 1, 22, none⟩ = some (.map (some B)) := by rw [cell_in L'.st]; rfl
  have hp := L'.pm
  have hpl := lt_of_block L'.st
  go_wp2_with (at_range; refine wpList_range_pmap _ rfl _ 67 rfl 9 99 Try.underlying9 Try.underlying67 B kk f c rfl hp ?_; intro w0 hr0 hg0 hs0)
  go_frame
  have HL : Hid (Locked w B kk f c nt w.heap.size W) := L'
  have HW : Hid (Wk w B kk f c g) := h
  clear L' h hp c22
  go_loopw [4] (fun v wr => ∃ (left : ByteArray → Bool) (cnt : Nat), Prange Try.prog 9 wr B W.heap.size kk f c left cnt ∧ W.grownBy wr none ∧ Picked f g left v) (fun _ wr => wr.rangeLeft B W.heap.size)
  case atStart => exact ⟨_, _, hr0, hg0, .inl ⟨rfl, fun s hs => hs⟩⟩
  case round =>
    clear hr0 hg0 hs0
    obtain ⟨left, cnt, hrg, hgw, hpk⟩ := hrel
    -- a taker's cells in a later world of the loop
    have HC : Hid (∀ (wz : World) (s : ByteArray) (x : Nat) (t : Tk), W.grownBy wz none → f s = some x → g s = some t → wz.heap[x]? = some (tkObj s t)) := fun wz s x t hgz hf ht => by
      obtain ⟨t', ht', hx⟩ := HW.out.here s x hf
      rw [ht] at ht'
      cases ht'
      have hl := HL.out
      have hxl := lt_of_block hx
      have hne : x ≠ B + 1 := fun e => by
        rw [e, HST.out] at hx
        simp [wkObj, tkObj] at hx
      rw [hgz.block x (by rw [hl.size]; omega) (by simp), hl.old x hxl hne, hx]
    have hres : wr.heap[w.heap.size]? = some (peerObj ByteArray.empty ByteArray.empty 0 0) := (hgw.block _ (by rw [HL.out.size]; omega) (by simp)).trans HL.out.res
    have HRES : Hid (wr.heap[w.heap.size]? = some (peerObj ByteArray.empty ByteArray.empty 0 0)) := hres
    have r0 := cell_in (i := 0) hres
    have r1 := cell_in (i := 1) hres
    have r2 := cell_in (i := 2) hres
    have r3 := cell_in (i := 3) hres
    have f0 := free_in (i := 0) hres
    have f1 := free_in (i := 1) hres
    have f2 := free_in (i := 2) hres
    have f3 := free_in (i := 3) hres
    simp at r0 r1 r2 r3
    clear hres
    rcases hpk with ⟨rfl, hno⟩ | ⟨s0, x0, t0, rfl, hf0, ht0, hall⟩
    · have HNO : Hid (∀ s, (f s).isSome = true → left s = true) := hno
      clear hno
      go_wp2_with (at_next; refine wpList_next_pmap _ rfl _ rfl 9 Try.underlying9 B W.heap.size kk f c left cnt rfl hrg ?_ ?_)
      · intro hdone
        have HD : Hid (∀ s, s.size ≤ maxLen → left s = false) := hdone
        clear hdone
        go_wp2_with fail
        refine leaves_cons (f := 38) (args := #[.pointer (some ⟨B + 1, 19, none⟩)]) (by simp) (by simp [go_sem]) ?_
        have hst1 : wr.heap[B + 1]? = some (wkObj B nt 1) := (hgw.block _ hpl (by simp)).trans HL.out.st
        have hB1 : B + 1 ≠ w.heap.size := by omega
        have hst2 : (peer4 wr w.heap.size ByteArray.empty ByteArray.empty 0 0).heap[B + 1]? = some (wkObj B nt 1) := (peer4_other hB1 _ _ _ _).trans hst1
        have hres2 := peer4_here HRES.out ByteArray.empty ByteArray.empty 0 0
        refine (unlock_deferred muLib ⟨B + 1, 19, none⟩ .returning (peer4 wr w.heap.size ByteArray.empty ByteArray.empty 0 0) (by rw [cell_in hst2]; rfl) (free_in hst2)).mono ?_
        rintro e u' w'' ⟨rfl, rfl, rfl⟩
        have hno : ∀ s, f s = none := fun s => by
          cases hfs : f s with
          | none => rfl
          | some x =>
            have h1 := HNO.out s (by rw [hfs]; rfl)
            rw [HD.out s (HW.out.fits s x hfs)] at h1
            cases h1
        have hres3 : ((peer4 wr w.heap.size ByteArray.empty ByteArray.empty 0 0).setCell ⟨B + 1, 19, none⟩ (.int .i32 0)).heap[w.heap.size]? = some (peerObj ByteArray.empty ByteArray.empty 0 0) := (Below.heap_setCell _ _ _ _ (by simpa using hB1.symm)).trans hres2
        have q0 := cell_in (i := 0) hres3
        have q1 := cell_in (i := 1) hres3
        have q2 := cell_in (i := 2) hres3
        have q3 := cell_in (i := 3) hres3
        refine ⟨.tuple #[.agg #[.string ByteArray.empty, .string ByteArray.empty, .int .i64 0, .int .i64 0], .bool false], ?_, ?_⟩
        · simp [results, Try.results34, go_sem, q0, q1, q2, q3]
        · refine .inl ⟨fun s => HW.out.gone s (hno s), rfl, finish HW.out HL.out hgw (block_setCell hst2 _) ?_ (fun s x hs => by rw [hno s] at hs; cases hs) (fun s _ => HW.out.gone s (hno s)) ?_ ?_⟩
          · exact (peer4_pmap hrg.pmap (by omega) _ _ _ _).setCell (by simp) _
          · intro i vs t hi hh h98 _
            have i1 : i ≠ B + 1 := fun e => by
              rw [e, hst1] at hh
              simp [wkObj] at hh
              exact h98 hh.2.symm
            rw [Below.heap_setCell _ _ _ _ (by simpa using i1), peer4_other (by omega), hh]
          · exact (peer4_below (by omega) _ _ _ _).setCell (by simp) _
      · intro s x w1 cnt1 hsz hls hfx hrg1 hlt1 hg1 hs1 hen
        have HFX : Hid (f s = some x) := hfx
        clear hfx hls
        obtain ⟨t, ht, hx⟩ := HW.out.here s x HFX.out
        have HT : Hid (g s = some t) := ht
        clear ht hx
        go_wp2_with fail
        go_quiet (fail)
        go_wp2_with fail
        go_roundw
        case rel => exact ⟨strike left s, cnt1, hrg1.drewN _, grown_drewN (hgw.andThen hg1 (fun j hj => by cases hj; exact Or.inl (Nat.le_refl _))) _, picked_first HNO.out (fun s t hs => by
          cases hfs : f s with
          | none => rw [HW.out.gone s hfs] at hs; cases hs
          | some x => rfl) HFX.out HT.out⟩
        case measure => rw [(hrg1.drewN _).left_eq, hrg.left_eq]; exact hlt1
    · have HALL : Hid (∀ s t, g s = some t → left s = false → lessT s t s0 t0 = false) := hall
      have HF0 : Hid (f s0 = some x0) := hf0
      have HT0 : Hid (g s0 = some t0) := ht0
      clear hall hf0 ht0
      go_wp2_with (at_next; refine wpList_next_pmap _ rfl _ rfl 9 Try.underlying9 B W.heap.size kk f c left cnt rfl hrg ?_ ?_)
      · intro hdone
        have HD : Hid (∀ s, s.size ≤ maxLen → left s = false) := hdone
        clear hdone
        have b0 := HC.out wr s0 x0 t0 hgw HF0.out HT0.out
        have n0 := cell_in (i := 0) b0
        have n1 := cell_in (i := 1) b0
        have n2 := cell_in (i := 2) b0
        have n3 := cell_in (i := 3) b0
        have n4 := cell_in (i := 4) b0
        have fz4 := free_in (i := 4) b0
        simp at n0 n1 n2 n3 n4
        have hxr : ¬ x0 = w.heap.size := fun e => by
          rw [e, HRES.out] at b0
          simp [peerObj, tkObj] at b0
        have hxr' : ¬ w.heap.size = x0 := fun e => hxr e.symm
        have B0 : Hid (wr.heap[x0]? = some (tkObj s0 t0)) := b0
        clear b0
        go_wp2_with fail
        refine leaves_cons (f := 38) (args := #[.pointer (some ⟨B + 1, 19, none⟩)]) (by simp) (by simp [go_sem]) ?_
        have hst1 : wr.heap[B + 1]? = some (wkObj B nt 1) := (hgw.block _ hpl (by simp)).trans HL.out.st
        have hB1 : B + 1 ≠ w.heap.size := by omega
        have hxB1 : x0 ≠ B + 1 := fun e => by
          have hh := B0.out
          rw [e, hst1] at hh
          simp [wkObj, tkObj] at hh
        have hxB : x0 ≠ B := fun e => by
          have hh := B0.out
          obtain ⟨D, ⟨es, clock, h1, _⟩, _⟩ := hrg.pmap
          rw [e, h1] at hh
          cases hh
        have hgb : (wr.setCell ⟨x0, 4, none⟩ (.int .i64 (wrap64 (t0.given + 1)))).heap[x0]? = some (tkObj s0 { t0 with given := wrap64 (t0.given + 1) }) := block_setCell B0.out _
        have hgo : ∀ i, i ≠ x0 → (wr.setCell ⟨x0, 4, none⟩ (.int .i64 (wrap64 (t0.given + 1)))).heap[i]? = wr.heap[i]? := fun i hi => Below.heap_setCell _ _ _ _ hi
        have hgp : Pmap Try.prog 9 (wr.setCell ⟨x0, 4, none⟩ (.int .i64 (wrap64 (t0.given + 1)))) B kk f c := hrg.pmap.setCell (by simpa using hxB.symm) _
        have hgl : Below B wr (wr.setCell ⟨x0, 4, none⟩ (.int .i64 (wrap64 (t0.given + 1)))) := (Below.refl _ _).setCell (by have := HW.out.above s0 x0 HF0.out; simp; omega) _
        generalize hWg : wr.setCell ⟨x0, 4, none⟩ (.int .i64 (wrap64 (t0.given + 1))) = Wg at hgb hgo hgp hgl
        have hst2 : (peer4 Wg w.heap.size s0 t0.key t0.rev t0.lease).heap[B + 1]? = some (wkObj B nt 1) := (peer4_other hB1 _ _ _ _).trans ((hgo _ hxB1.symm).trans hst1)
        have hres2 := peer4_here ((hgo _ hxr').trans HRES.out) s0 t0.key t0.rev t0.lease
        refine (unlock_deferred muLib ⟨B + 1, 19, none⟩ .returning (peer4 Wg w.heap.size s0 t0.key t0.rev t0.lease) (by rw [cell_in hst2]; rfl) (free_in hst2)).mono ?_
        rintro e u' w'' ⟨rfl, rfl, rfl⟩
        have hres3 : ((peer4 Wg w.heap.size s0 t0.key t0.rev t0.lease).setCell ⟨B + 1, 19, none⟩ (.int .i32 0)).heap[w.heap.size]? = some (peerObj s0 t0.key t0.rev t0.lease) := (Below.heap_setCell _ _ _ _ (by simpa using hB1.symm)).trans hres2
        have q0 := cell_in (i := 0) hres3
        have q1 := cell_in (i := 1) hres3
        have q2 := cell_in (i := 2) hres3
        have q3 := cell_in (i := 3) hres3
        refine ⟨.tuple #[.agg #[.string s0, .string t0.key, .int .i64 t0.rev, .int .i64 t0.lease], .bool true], ?_, ?_⟩
        · simp [results, Try.results34, go_sem, q0, q1, q2, q3]
        · have far : ∀ i, i ≠ B + 1 → i ≠ w.heap.size → i ≠ x0 → ((peer4 Wg w.heap.size s0 t0.key t0.rev t0.lease).setCell ⟨B + 1, 19, none⟩ (.int .i32 0)).heap[i]? = wr.heap[i]? := fun i h1 h2 h3 => by
            rw [Below.heap_setCell _ _ _ _ (by simpa using h1), peer4_other h2, hgo i h3]
          refine .inr ⟨s0, t0, HT0.out, fun s' t' hs' => HALL.out s' t' hs' ?_, rfl, finish HW.out HL.out hgw (block_setCell hst2 _) ?_ (fun s x hs => ?_) (fun s hs => ?_) ?_ ?_⟩
          · cases hfs : f s' with
            | none => rw [HW.out.gone s' hfs] at hs'; cases hs'
            | some x => exact HD.out s' (HW.out.fits s' x hfs)
          · exact (peer4_pmap hgp (by omega) _ _ _ _).setCell (by simp) _
          · by_cases e : s = s0
            · subst e
              rw [HF0.out] at hs
              cases hs
              refine ⟨_, gput_same _ _ _, ?_⟩
              rw [Below.heap_setCell _ _ _ _ (by simpa using hxB1), peer4_other hxr, hgb]
            · obtain ⟨t, ht, hx⟩ := HW.out.here s x hs
              have hxw := HC.out wr s x t hgw hs ht
              refine ⟨t, by rw [gput_other _ _ e]; exact ht, ?_⟩
              rw [far x (by have := HW.out.above s x hs; omega) (by have := lt_of_block hx; omega) (fun e2 => ?_), hxw]
              have hh := B0.out
              rw [← e2, hxw] at hh
              simp [tkObj] at hh
              exact e hh.1
          · by_cases e : s = s0
            · subst e
              rw [HF0.out] at hs
              cases hs
            · rw [gput_other _ _ e]
              exact HW.out.gone s hs
          · intro i vs t hi hh h98 h103
            have i1 : i ≠ B + 1 := fun e => by
              rw [e, hst1] at hh
              simp [wkObj] at hh
              exact h98 hh.2.symm
            have i2 : i ≠ x0 := fun e => by
              rw [e, B0.out] at hh
              simp [tkObj] at hh
              exact h103 hh.2.symm
            rw [far i i1 (by omega) i2, hh]
          · exact (hgl.trans (peer4_below (by omega) _ _ _ _)).setCell (by simp) _
      · intro s x w1 cnt1 hsz hls hfx hrg1 hlt1 hg1 hs1 hen
        have HFX : Hid (f s = some x) := hfx
        clear hfx hls
        obtain ⟨t, ht, hx⟩ := HW.out.here s x HFX.out
        have HT : Hid (g s = some t) := ht
        clear ht hx
        have hgw1 := hgw.andThen hg1 (fun j hj => by cases hj; exact Or.inl (Nat.le_refl _))
        have b1 := HC.out w1 s x t hgw1 HFX.out HT.out
        have b0 := HC.out w1 s0 x0 t0 hgw1 HF0.out HT0.out
        have n1 := cell_in (i := 0) b1
        have g1 := cell_in (i := 4) b1
        have n0 := cell_in (i := 0) b0
        have g0 := cell_in (i := 4) b0
        simp at n1 g1 n0 g0
        clear b1 b0
        by_cases ha : t.given < t0.given
        · have HL1 : Hid (lessT s t s0 t0 = true) := lessT_iff.2 (.inl ha)
          go_wp2_with fail
          go_quiet (fail)
          go_wp2_with fail
          go_roundw
          case rel => exact ⟨strike left s, cnt1, hrg1.drewN _, grown_drewN hgw1 _, picked_new HALL.out HFX.out HT.out HL1.out⟩
          case measure => rw [(hrg1.drewN _).left_eq, hrg.left_eq]; exact hlt1
        · have ha' : decide (t.given < t0.given) = false := by simpa using ha
          by_cases hb : t.given = t0.given
          · have hb' : (t.given == t0.given) = true := by simpa using hb
            cases hc : Op.bytesLess s.toList s0.toList with
            | true =>
              have HL1 : Hid (lessT s t s0 t0 = true) := lessT_iff.2 (.inr ⟨hb, hc⟩)
              clear hb ha
              go_wp2_with fail
              go_quiet (fail)
              go_wp2_with fail
              go_roundw
              case rel => exact ⟨strike left s, cnt1, hrg1.drewN _, grown_drewN hgw1 _, picked_new HALL.out HFX.out HT.out HL1.out⟩
              case measure => rw [(hrg1.drewN _).left_eq, hrg.left_eq]; exact hlt1
            | false =>
              have HL1 : Hid (lessT s t s0 t0 = false) := lessT_false (by omega) (fun _ => hc)
              clear hb ha
              go_wp2_with fail
              go_quiet (fail)
              go_wp2_with fail
              go_roundw
              case rel => exact ⟨strike left s, cnt1, hrg1.drewN _, grown_drewN hgw1 _, picked_stay HALL.out HF0.out HT0.out HT.out HL1.out⟩
              case measure => rw [(hrg1.drewN _).left_eq, hrg.left_eq]; exact hlt1
          · have hb' : (t.given == t0.given) = false := by simpa using hb
            have HL1 : Hid (lessT s t s0 t0 = false) := lessT_false (by omega) (fun e => absurd e hb)
            clear hb ha
            go_wp2_with fail
            go_quiet (fail)
            go_wp2_with fail
            go_roundw
            case rel => exact ⟨strike left s, cnt1, hrg1.drewN _, grown_drewN hgw1 _, picked_stay HALL.out HF0.out HT0.out HT.out HL1.out⟩
            case measure => rw [(hrg1.drewN _).left_eq, hrg.left_eq]; exact hlt1
end Go.Proofs.Qxb6604668a
