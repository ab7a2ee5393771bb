/-
  THE CONTRACTS of (*equations).value (15) and ZZValue (11): row r is the window [i*t, (i+1)*t) of its room.
-/
import Derived.Test.Qxb6602636aClone
import Derived.BigQuiet
import Derived.Deep.QuietTactic
namespace Go.Proofs.Qxb6602636a
open Go.ChangeShapes Go.WideShapes Go.ChangeAt Go.RowKit

/-- row r's value: returned, and nothing that was there has turned -/
def Row (w : World) (v : Value) (e : Ending) (w' : World) : Prop := e = .returned v ∧ Below w.heap.size w w'

theorem value_front (E t rec r L U : Nat) (sa za : Option Addr) (sl sc zl zc : Nat) (w : World) (c1 : w.cell? ⟨E, 1, none⟩ = some (.int .i64 t)) (c2 : w.cell? ⟨E, 2, none⟩ = some (.int .i64 rec)) (c7 : w.cell? ⟨E, 7, none⟩ = some (.slice sa sl sc)) (_c8 : w.cell? ⟨E, 8, none⟩ = some (.slice za zl zc))
    (hr : r < rec) (hr2 : r < 2147483648) (eL : (r : Int) * (t : Int) = (L : Int)) (eU : ((r : Int) + 1) * (t : Int) = (U : Int)) (hLU : L ≤ U) (hU : U ≤ sc) (hsc : sc ≤ 1048576) :
    Calls Try.prog 15 #[.pointer (some ⟨E, 0, none⟩), .int .i32 r] w (Row w (sliced sa L U U 1)) := by
  have l1 : (0 : Int) ≤ (L : Int) := by omega
  have l2 : (L : Int) ≤ (U : Int) := by omega
  have l3 : (U : Int) ≤ (sc : Int) := by omega
  go_enter Try.func15, Try.ntmps15
  go_wp2
  go_quiet (fail)
  go_wp2
  all_goals
    go_ret
    exact ⟨rfl, below_drewN (Below.refl _ _) _⟩

theorem value_back (E t rec i L U : Nat) (sa za : Option Addr) (sl sc zl zc : Nat) (w : World) (c1 : w.cell? ⟨E, 1, none⟩ = some (.int .i64 t)) (c2 : w.cell? ⟨E, 2, none⟩ = some (.int .i64 rec)) (c7 : w.cell? ⟨E, 7, none⟩ = some (.slice sa sl sc)) (c8 : w.cell? ⟨E, 8, none⟩ = some (.slice za zl zc))
    (hr2 : rec + i < 2147483648) (eL : (i : Int) * (t : Int) = (L : Int)) (eU : ((i : Int) + 1) * (t : Int) = (U : Int)) (hLU : L ≤ U) (hU : U ≤ zc) (hzc : zc ≤ 1048576) :
    Calls Try.prog 15 #[.pointer (some ⟨E, 0, none⟩), .int .i32 (rec + i : Nat)] w (Row w (sliced za L U U 1)) := by
  have l1 : (0 : Int) ≤ (L : Int) := by omega
  have l2 : (L : Int) ≤ (U : Int) := by omega
  have l3 : (U : Int) ≤ (zc : Int) := by omega
  have hsub : ((rec : Int) + (i : Int) - (rec : Int)) = (i : Int) := by omega
  go_enter Try.func15, Try.ntmps15
  go_wp2
  go_quiet (fail)
  go_wp2
  go_quiet (fail)
  go_wp2
  all_goals
    go_ret
    exact ⟨rfl, below_drewN (Below.refl _ _) _⟩

theorem zzvalue_front (t rec r L U : Nat) (sa za : Option Addr) (sl sc zl zc : Nat) (w : World) (hr : r < rec) (hr2 : r < 2147483648) (eL : (r : Int) * (t : Int) = (L : Int)) (eU : ((r : Int) + 1) * (t : Int) = (U : Int)) (hLU : L ≤ U) (hU : U ≤ sc) (hsc : sc ≤ 1048576) :
    Calls Try.prog 11 #[.int .i64 t, .int .i64 rec, .slice sa sl sc, .slice za zl zc, .int .i32 r] w (Row w (sliced sa L U U 1)) := by
  have H : Hid (∀ wz E, wz.cell? ⟨E, 1, none⟩ = some (.int .i64 t) → wz.cell? ⟨E, 2, none⟩ = some (.int .i64 rec) → wz.cell? ⟨E, 7, none⟩ = some (.slice sa sl sc) → wz.cell? ⟨E, 8, none⟩ = some (.slice za zl zc) → Calls Try.prog 15 #[.pointer (some ⟨E, 0, none⟩), .int .i32 r] wz (Row wz (sliced sa L U U 1))) :=
    fun wz E c1 c2 c7 c8 => value_front E t rec r L U sa za sl sc zl zc wz c1 c2 c7 c8 hr hr2 eL eU hLU hU hsc
  clear eL eU hLU hU
  generalize sliced sa L U U 1 = v at H ⊢
  go_enter Try.func11, Try.ntmps11
  go_wp2_with fail
  refine (H.out _ w.heap.size (by simp) (by simp) (by simp) (by simp)).mono ?_
  rintro e w1 ⟨rfl, hb⟩
  go_wp2_with fail
  go_ret
  exact ⟨rfl, ((Below.refl _ _).alloc (Nat.le_refl _) _).trans (hb.mono (by simp))⟩

theorem zzvalue_back (t rec i L U : Nat) (sa za : Option Addr) (sl sc zl zc : Nat) (w : World) (hr2 : rec + i < 2147483648) (eL : (i : Int) * (t : Int) = (L : Int)) (eU : ((i : Int) + 1) * (t : Int) = (U : Int)) (hLU : L ≤ U) (hU : U ≤ zc) (hzc : zc ≤ 1048576) :
    Calls Try.prog 11 #[.int .i64 t, .int .i64 rec, .slice sa sl sc, .slice za zl zc, .int .i32 (rec + i : Nat)] w (Row w (sliced za L U U 1)) := by
  have H : Hid (∀ wz E, wz.cell? ⟨E, 1, none⟩ = some (.int .i64 t) → wz.cell? ⟨E, 2, none⟩ = some (.int .i64 rec) → wz.cell? ⟨E, 7, none⟩ = some (.slice sa sl sc) → wz.cell? ⟨E, 8, none⟩ = some (.slice za zl zc) → Calls Try.prog 15 #[.pointer (some ⟨E, 0, none⟩), .int .i32 (rec + i : Nat)] wz (Row wz (sliced za L U U 1))) :=
    fun wz E c1 c2 c7 c8 => value_back E t rec i L U sa za sl sc zl zc wz c1 c2 c7 c8 hr2 eL eU hLU hU hzc
  clear eL eU hLU hU
  generalize sliced za L U U 1 = v at H ⊢
  generalize (((rec + i : Nat) : Int)) = rr at H ⊢
  go_enter Try.func11, Try.ntmps11
  go_wp2_with fail
  refine (H.out _ w.heap.size (by simp) (by simp) (by simp) (by simp)).mono ?_
  rintro e w1 ⟨rfl, hb⟩
  go_wp2_with fail
  go_ret
  exact ⟨rfl, ((Below.refl _ _).alloc (Nat.le_refl _) _).trans (hb.mono (by simp))⟩
end Go.Proofs.Qxb6602636a
