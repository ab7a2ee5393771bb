/-
  THE CONTRACTS of ZZholdingFields (32), b1HoldingIs (15) and ZZholdingsFields (18): they only read, in an order that Go leaves open.
-/
import Derived.Test.Qxb6604668aHold
import Derived.BigQuiet
import Derived.Deep.QuietTactic
namespace Go.Proofs.Qxb6604668a
open Go.ChangeShapes Go.WideShapes Go.ChangeAt Go.RowKit

theorem holdingFields (b : Nat) (l e : Bool) (pn : ByteArray) (pl : Int) (sn : ByteArray) (sl sa : Int) (w : World) (hb : w.heap[b]? = some (holdingObj l e pn pl sn sl sa)) :
    Calls Try.prog 32 #[.pointer (some ⟨b, 0, none⟩)] w fun e' w' => e' = .returned (.tuple #[.bool l, .bool e, .string pn, .int .i64 pl, .string sn, .int .i64 sl, .int .i64 sa]) ∧ ∃ n, w' = w.drewN n := by
  have h0 := cell_in (i := 0) hb
  have h1 := cell_in (i := 1) hb
  have h2 := cell_in (i := 2) hb
  have h3 := cell_in (i := 3) hb
  have h4 := cell_in (i := 4) hb
  have h5 := cell_in (i := 5) hb
  have h6 := cell_in (i := 6) hb
  simp at h0 h1 h2 h3 h4 h5 h6
  clear hb
  go_enter Try.func32, Try.ntmps32
  go_wp2
  go_quiet (fail)
  go_wp2
  exact bodyPost_ret (v := .tuple #[.bool l, .bool e, .string pn, .int .i64 pl, .string sn, .int .i64 sl, .int .i64 sa]) (by simp [results, Try.results32, go_sem]) rfl ⟨rfl, _, rfl⟩

theorem holdingIs (b : Nat) (l e : Bool) (pn : ByteArray) (pl : Int) (sn : ByteArray) (sl sa : Int) (w : World) (hb : w.heap[b]? = some (holdingObj l e pn pl sn sl sa)) :
    Calls Try.prog 15 #[.pointer (some ⟨b, 0, none⟩), .bool l, .bool e, .string pn, .int .i64 pl, .string sn, .int .i64 sl, .int .i64 sa] w fun e' w' => e' = .returned (.bool true) ∧ ∃ n, w' = w.drewN n := by
  have H : Hid (w.heap[b]? = some (holdingObj l e pn pl sn sl sa)) := hb
  clear hb
  go_enter Try.func15, Try.ntmps15
  go_wp2_with (go_at_call 32; refine (holdingFields b l e pn pl sn sl sa _ H.out).mono ?_; rintro e' w' ⟨rfl, nq, rfl⟩)
  go_ret
  exact ⟨rfl, _, rfl⟩

end Go.Proofs.Qxb6604668a
