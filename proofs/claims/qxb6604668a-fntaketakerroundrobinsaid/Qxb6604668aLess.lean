/-
  Go's '<' on strings (the model's 'Op.bytesLess'): a strict total order. Plain: no program.
-/
import Derived.WalkKit
import Derived.Test.Qxb6604668aPmap
namespace Go.Proofs.Qxb6604668a

theorem bl_irrefl : ∀ x : List UInt8, Op.bytesLess x x = false
  | [] => rfl
  | a :: x => by
    rw [Op.bytesLess, bl_irrefl x]
    simp

theorem bl_trans : ∀ x y z : List UInt8, Op.bytesLess x y = true → Op.bytesLess y z = true → Op.bytesLess x z = true
  | [], [], _, h, _ => by simp [Op.bytesLess] at h
  | _ :: _, [], _, h, _ => by simp [Op.bytesLess] at h
  | _, _ :: _, [], _, h => by simp [Op.bytesLess] at h
  | [], _ :: _, _ :: _, _, _ => by simp [Op.bytesLess]
  | a :: x, b :: y, c :: z, h1, h2 => by
    rw [Op.bytesLess] at *
    simp only [Bool.or_eq_true, Bool.and_eq_true, decide_eq_true_eq, beq_iff_eq] at *
    rcases h1 with h1 | ⟨rfl, h1⟩
    · rcases h2 with h2 | ⟨rfl, h2⟩
      · exact Or.inl (UInt8.lt_trans h1 h2)
      · exact Or.inl h1
    · rcases h2 with h2 | ⟨rfl, h2⟩
      · exact Or.inl h2
      · exact Or.inr ⟨rfl, bl_trans x y z h1 h2⟩

theorem bl_total : ∀ x y : List UInt8, Op.bytesLess x y = false → Op.bytesLess y x = false → x = y
  | [], [], _, _ => rfl
  | _ :: _, [], _, h => by simp [Op.bytesLess] at h
  | [], _ :: _, h, _ => by simp [Op.bytesLess] at h
  | a :: x, b :: y, h1, h2 => by
    rw [Op.bytesLess] at h1 h2
    simp only [Bool.or_eq_false_iff, decide_eq_false_iff_not] at h1 h2
    have e : a = b := UInt8.le_antisymm (UInt8.not_lt.1 h2.1) (UInt8.not_lt.1 h1.1)
    subst e
    simp at h1 h2
    rw [bl_total x y h1 h2]

/-- '<' on strings -/
def sLess (a b : ByteArray) : Bool := Op.bytesLess a.toList b.toList

theorem sLess_irrefl (a : ByteArray) : sLess a a = false := bl_irrefl _
theorem sLess_trans {a b c : ByteArray} (h1 : sLess a b = true) (h2 : sLess b c = true) : sLess a c = true := bl_trans _ _ _ h1 h2
theorem sLess_total {a b : ByteArray} (h1 : sLess a b = false) (h2 : sLess b a = false) : a = b := str_inj (bl_total _ _ h1 h2)
theorem sLess_asymm {a b : ByteArray} (h : sLess a b = true) : sLess b a = false := by
  cases hb : sLess b a with
  | false => rfl
  | true => rw [← sLess_irrefl a]; exact (sLess_trans h hb).symm
/-- not less, chained -/
theorem sLess_not_trans {a b c : ByteArray} (h1 : sLess a b = true) (h2 : sLess c b = false) : sLess c a = false := by
  cases hb : sLess c a with
  | false => rfl
  | true => rw [sLess_trans hb h1] at h2; cases h2
end Go.Proofs.Qxb6604668a
