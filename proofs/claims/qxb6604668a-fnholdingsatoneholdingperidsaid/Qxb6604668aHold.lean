/-
  THE CONTRACTS of package cluster's holdings as the laws call them (functions 13, 14, 15, 16, 17, 18, 20, 31, 32 of the dump).
-/
import Derived.Test.Qxb6604668aRows
import Derived.Test.Qxb6604668aPmap
import Derived.WalkKit
import Derived.ProofKit
import Derived.WalkLawsBesides
import Derived.LaidEqlPtr
namespace Go.Proofs.Qxb6604668a
open Go.ChangeShapes Go.WideShapes Go.ChangeAt Go.RowKit

theorem zero31 (w : World) : (zeroValue 31).run Try.prog w = .ok (.pointer none) w := by kernel_rfl

theorem info66 : (Try.prog.info? 66).map (fun i => i.size) = some 7 := by kernel_rfl

/-! ### pointers to holdings, compared -/
theorem eql_same (a : Addr) (w : World) : (binOp .eql 31 (.pointer (some a)) (.pointer (some a))).run Try.prog w = .ok (.bool true) w := by
  have h := info66
  cases hj : Try.prog.info? 66 with
  | none => rw [hj] at h; cases h
  | some j => exact run_eql_ptr_same w a Try.underlying31 hj

theorem neq_of_eql {P : Program} {t : TypeId} {x y : Option Addr} {r : Bool} {w : World} (h : (binOp .eql t (.pointer x) (.pointer y)).run P w = .ok (.bool r) w) : (binOp .neq t (.pointer x) (.pointer y)).run P w = .ok (.bool (!r)) w := by
  simp only [binOp] at h ⊢
  cases hr : (Op.equal t (.pointer x) (.pointer y)).run P w with
  | ok v w1 =>
    simp [hr] at h ⊢
    exact h
  | halt z w1 => simp [hr] at h

theorem neq_same (a : Addr) (w : World) : (binOp .neq 31 (.pointer (some a)) (.pointer (some a))).run Try.prog w = .ok (.bool false) w := neq_of_eql (eql_same a w)

theorem eql_other {a b : Nat} {ca cb : Array Value} {ta tb : TypeId} {w : World} (hne : a ≠ b) (ha : w.heap[a]? = some (.cells ca ta (0, 0))) (hb : w.heap[b]? = some (.cells cb tb (0, 0))) :
    (binOp .eql 31 (.pointer (some ⟨a, 0, none⟩)) (.pointer (some ⟨b, 0, none⟩))).run Try.prog w = .ok (.bool false) w := by
  have h := info66
  cases hj : Try.prog.info? 66 with
  | none => rw [hj] at h; cases h
  | some j =>
    rw [hj] at h
    simp at h
    exact run_eql_ptr_other w Try.underlying31 hj (by omega) (fun e => hne (congrArg Addr.block e)) ha hb

/-- a new, empty holding -/
def emptyHolding : Obj := .cells #[.bool false, .bool false, .string ByteArray.empty, .int .i64 0, .string ByteArray.empty, .int .i64 0, .int .i64 0] 66

theorem newHoldings (l d s : ByteArray) (n : Int) (w : World) : Calls Try.prog 13 #[.string l, .string d, .string s, .int .i64 n] w fun e w' => e = .returned (.pointer (some ⟨w.heap.size + 1, 0, none⟩)) ∧ w' = (w.alloc (.map #[] 0)).alloc (.cells #[.string l, .string d, .string s, .map (some w.heap.size), .int .i64 n] 59) := by
  have hmm := @run_makeMap Try.prog
  go_enter Try.func13, Try.ntmps13
  go_wp2
  go_ret
  exact ⟨rfl, rfl⟩

theorem taskOf (sb mb n c : Nat) (f : ByteArray → Option Nat) (s : ByteArray) (w : World) (c3 : w.cell? ⟨sb, 3, none⟩ = some (.map (some mb))) (hp : Pmap Try.prog 9 w mb n f c) (hs : s.size ≤ maxLen) :
    Calls Try.prog 17 #[.pointer (some ⟨sb, 0, none⟩), .string s] w fun e w' => e = .returned (ptrOf (f s)) ∧ w' = w := by
  go_enter Try.func17, Try.ntmps17
  go_wp2_with (at_lookup; refine wpList_lookup_pmap _ rfl _ _ 57 rfl 9 31 Try.underlying9 Try.underlying57 (zero31 _) mb n f c rfl hp s rfl hs _ rfl ?_)
  go_ret
  exact ⟨rfl, rfl⟩

theorem lenOf (sb mb n c : Nat) (f : ByteArray → Option Nat) (w : World) (c3 : w.cell? ⟨sb, 3, none⟩ = some (.map (some mb))) (hp : Pmap Try.prog 9 w mb n f c) :
    Calls Try.prog 16 #[.pointer (some ⟨sb, 0, none⟩)] w fun e w' => e = .returned (.int .i64 c) ∧ w' = w := by
  go_enter Try.func16, Try.ntmps16
  go_wp2_with (at_len; refine wpList_len_pmap _ rfl _ 57 rfl 9 31 Try.underlying57 mb n f c rfl hp ?_)
  go_ret
  exact ⟨rfl, rfl⟩

theorem at_old (sb mb n c x : Nat) (f : ByteArray → Option Nat) (s : ByteArray) (w : World) (c3 : w.cell? ⟨sb, 3, none⟩ = some (.map (some mb))) (hp : Pmap Try.prog 9 w mb n f c) (hs : s.size ≤ maxLen) (hf : f s = some x) :
    Calls Try.prog 31 #[.pointer (some ⟨sb, 0, none⟩), .string s] w fun e w' => e = .returned (.pointer (some ⟨x, 0, none⟩)) ∧ w' = w := by
  have hu : ptrOf (f s) = .pointer (some ⟨x, 0, none⟩) := by rw [hf]; rfl
  have HU : Hid (ptrOf (f s) = .pointer (some ⟨x, 0, none⟩)) := hu
  clear hf hu
  go_enter Try.func31, Try.ntmps31
  go_wp2_with (at_lookup; refine wpList_lookup_pmap _ rfl _ _ 57 rfl 9 31 Try.underlying9 Try.underlying57 (zero31 _) mb n f c rfl hp s rfl hs _ HU.out ?_)
  go_ret
  exact ⟨rfl, rfl⟩

theorem lt_of_cell {w : World} {b o : Nat} {v : Value} (h : w.cell? ⟨b, o, none⟩ = some v) : b < w.heap.size := by
  rcases Nat.lt_or_ge b w.heap.size with h' | h'
  · exact h'
  · simp [World.cell?, Array.getElem?_eq_none h'] at h

theorem cell_alloc {w : World} {b o : Nat} {v : Value} (h : w.cell? ⟨b, o, none⟩ = some v) (x : Obj) : (w.alloc x).cell? ⟨b, o, none⟩ = some v :=
  (World.cell?_of_block (w := w) (Below.heap_alloc w x b (lt_of_cell h))).trans h

theorem at_new (sb mb n c : Nat) (f : ByteArray → Option Nat) (s : ByteArray) (w : World) (c3 : w.cell? ⟨sb, 3, none⟩ = some (.map (some mb))) (hp : Pmap Try.prog 9 w mb n f c) (hs : s.size ≤ maxLen) (hn : n < maxLen) (hf : f s = none) :
    Calls Try.prog 31 #[.pointer (some ⟨sb, 0, none⟩), .string s] w fun e w' => e = .returned (.pointer (some ⟨w.heap.size, 0, none⟩)) ∧ Pmap Try.prog 9 w' mb (n + 1) (put f s w.heap.size) (c + 1) ∧ (w.alloc emptyHolding).grownBy w' (some mb) := by
  have HU : Hid (ptrOf (f s) = .pointer none) := show ptrOf (f s) = .pointer none by rw [hf]; rfl
  have HC : Hid ((if (f s).isSome = true then c else c + 1) = c + 1) := show (if (f s).isSome = true then c else c + 1) = c + 1 by rw [hf]; rfl
  have hp1 := hp.alloc emptyHolding
  have hlt := lt_of_cell c3
  unfold emptyHolding at hp1
  clear hf
  go_enter Try.func31, Try.ntmps31
  go_wp2_with (first
    | (at_lookup; refine wpList_lookup_pmap _ rfl _ _ 57 rfl 9 31 Try.underlying9 Try.underlying57 (zero31 _) mb n f c rfl hp s rfl hs _ HU.out ?_)
    | (at_mapUpdate; refine wpList_update_pmap _ rfl _ _ _ 57 rfl 9 31 Try.underlying9 Try.underlying57 mb n f c rfl hp1 hn s rfl hs w.heap.size rfl ?_; intro w1 hp2 hg1))
  go_ret
  rw [HC.out] at hp2
  exact ⟨rfl, hp2, hg1⟩

theorem holdingsAt_old (sb mb n c x : Nat) (f : ByteArray → Option Nat) (s : ByteArray) (w : World) (c3 : w.cell? ⟨sb, 3, none⟩ = some (.map (some mb))) (hp : Pmap Try.prog 9 w mb n f c) (hs : s.size ≤ maxLen) (hf : f s = some x) :
    Calls Try.prog 14 #[.pointer (some ⟨sb, 0, none⟩), .string s] w fun e w' => e = .returned (.pointer (some ⟨x, 0, none⟩)) ∧ w' = w := by
  have h := at_old sb mb n c x f s w c3 hp hs hf
  have H : Hid (Calls Try.prog 31 #[.pointer (some ⟨sb, 0, none⟩), .string s] w fun e w' => e = .returned (.pointer (some ⟨x, 0, none⟩)) ∧ w' = w) := h
  clear h hf
  go_enter Try.func14, Try.ntmps14
  go_wp2_with (go_at_call 31; refine H.out.mono ?_; rintro e w' ⟨rfl, rfl⟩)
  go_ret
  exact ⟨rfl, rfl⟩

theorem holdingsAt_new (sb mb n c : Nat) (f : ByteArray → Option Nat) (s : ByteArray) (w : World) (c3 : w.cell? ⟨sb, 3, none⟩ = some (.map (some mb))) (hp : Pmap Try.prog 9 w mb n f c) (hs : s.size ≤ maxLen) (hn : n < maxLen) (hf : f s = none) :
    Calls Try.prog 14 #[.pointer (some ⟨sb, 0, none⟩), .string s] w fun e w' => e = .returned (.pointer (some ⟨w.heap.size, 0, none⟩)) ∧ Pmap Try.prog 9 w' mb (n + 1) (put f s w.heap.size) (c + 1) ∧ (w.alloc emptyHolding).grownBy w' (some mb) := by
  have h := at_new sb mb n c f s w c3 hp hs hn hf
  have H : Hid (Calls Try.prog 31 #[.pointer (some ⟨sb, 0, none⟩), .string s] w fun e w' => e = .returned (.pointer (some ⟨w.heap.size, 0, none⟩)) ∧ Pmap Try.prog 9 w' mb (n + 1) (put f s w.heap.size) (c + 1) ∧ (w.alloc emptyHolding).grownBy w' (some mb)) := h
  clear h hf
  go_enter Try.func14, Try.ntmps14
  go_wp2_with (go_at_call 31; refine H.out.mono ?_; rintro e w' ⟨rfl, hp2, hg1⟩)
  go_ret
  exact ⟨rfl, hp2, hg1⟩

/-- a holding as its seven cells -/
def holdingObj (l e : Bool) (pn : ByteArray) (pl : Int) (sn : ByteArray) (sl sa : Int) : Obj := .cells #[.bool l, .bool e, .string pn, .int .i64 pl, .string sn, .int .i64 sl, .int .i64 sa] 66

theorem emptyHolding_eq : emptyHolding = holdingObj false false ByteArray.empty 0 ByteArray.empty 0 0 := rfl

theorem holdingsPut (sb mb n c : Nat) (f : ByteArray → Option Nat) (s : ByteArray) (l e : Bool) (pn : ByteArray) (pl : Int) (sn : ByteArray) (sl sa : Int) (w : World) (c3 : w.cell? ⟨sb, 3, none⟩ = some (.map (some mb))) (hp : Pmap Try.prog 9 w mb n f c) (hs : s.size ≤ maxLen) (hn : n < maxLen) (hf : f s = none) :
    Calls Try.prog 20 #[.pointer (some ⟨sb, 0, none⟩), .string s, .bool l, .bool e, .string pn, .int .i64 pl, .string sn, .int .i64 sl, .int .i64 sa] w fun e' w' => e' = .returned (.pointer (some ⟨w.heap.size, 0, none⟩)) ∧ Pmap Try.prog 9 w' mb (n + 1) (put f s w.heap.size) (c + 1) ∧ (w.alloc (holdingObj l e pn pl sn sl sa)).grownBy w' (some mb) := by
  have HC : Hid ((if (f s).isSome = true then c else c + 1) = c + 1) := show (if (f s).isSome = true then c else c + 1) = c + 1 by rw [hf]; rfl
  have hp1 := hp.alloc (holdingObj l e pn pl sn sl sa)
  have hlt := lt_of_cell c3
  unfold holdingObj at hp1
  clear hf
  go_enter Try.func20, Try.ntmps20
  go_wp2_with (at_mapUpdate; refine wpList_update_pmap _ rfl _ _ _ 57 rfl 9 31 Try.underlying9 Try.underlying57 mb n f c rfl hp1 hn s rfl hs w.heap.size rfl ?_; intro w1 hp2 hg1)
  go_ret
  rw [HC.out] at hp2
  exact ⟨rfl, hp2, hg1⟩

end Go.Proofs.Qxb6604668a
