/-
  SEAT b6627948a: THE WALKS OF THE CALLEES: do the lengths sum to at most 1<<20? (functions 5 and 8); and the words' Bools.
-/
import Derived.Test.Qxb6627948aRows
import Derived.WalkKit
namespace Go.Proofs.Qxb6627948a.Walks
open Go.RowKit

theorem bytes8_yes (r t i : ByteArray) (q : Int) (w : World) (h : r.size + t.size + i.size ≤ 1048576) :
    Calls Try.prog 8 #[.string r, .string t, .int .i64 q, .string i] w fun e w' => e = .returned (.bool true) ∧ w' = w := by
  go_enter Try.func8, Try.ntmps8
  go_wp2
  go_ret
  exact ⟨rfl, rfl⟩
theorem bytes8_no (r t i : ByteArray) (q : Int) (w : World) (hr : r.size ≤ maxLen) (ht : t.size ≤ maxLen) (hi : i.size ≤ maxLen) (h : ¬ r.size + t.size + i.size ≤ 1048576) :
    Calls Try.prog 8 #[.string r, .string t, .int .i64 q, .string i] w fun e w' => e = .returned (.bool false) ∧ w' = w := by
  unfold maxLen at hr ht hi
  go_enter Try.func8, Try.ntmps8
  go_wp2
  all_goals (go_ret; exact ⟨rfl, rfl⟩)
theorem bytes5_yes (r t i : ByteArray) (q l : Int) (w : World) (h : r.size + t.size + i.size ≤ 1048576) :
    Calls Try.prog 5 #[.string r, .string t, .int .i64 q, .string i, .int .i64 l] w fun e w' => e = .returned (.bool true) ∧ w' = w := by
  go_enter Try.func5, Try.ntmps5
  go_wp2
  go_ret
  exact ⟨rfl, rfl⟩
theorem bytes5_no (r t i : ByteArray) (q l : Int) (w : World) (hr : r.size ≤ maxLen) (ht : t.size ≤ maxLen) (hi : i.size ≤ maxLen) (h : ¬ r.size + t.size + i.size ≤ 1048576) :
    Calls Try.prog 5 #[.string r, .string t, .int .i64 q, .string i, .int .i64 l] w fun e w' => e = .returned (.bool false) ∧ w' = w := by
  unfold maxLen at hr ht hi
  go_enter Try.func5, Try.ntmps5
  go_wp2
  all_goals (go_ret; exact ⟨rfl, rfl⟩)

/-- The two instructions are two words. -/
theorem not_both {l : List UInt8} (h : (l == [101, 120, 101, 114, 99, 105, 115, 101]) = true) : (l == [100, 111, 45, 110, 111, 116, 45, 101, 120, 101, 114, 99, 105, 115, 101]) = false := by
  rw [beq_iff_eq] at h
  subst h
  decide
/-- What may be said of an instruction: it is one word, or the other, or neither. -/
theorem words (l : List UInt8) :
    ((l == [101, 120, 101, 114, 99, 105, 115, 101]) = true ∧ (l == [100, 111, 45, 110, 111, 116, 45, 101, 120, 101, 114, 99, 105, 115, 101]) = false) ∨
    ((l == [101, 120, 101, 114, 99, 105, 115, 101]) = false ∧ (l == [100, 111, 45, 110, 111, 116, 45, 101, 120, 101, 114, 99, 105, 115, 101]) = true) ∨
    ((l == [101, 120, 101, 114, 99, 105, 115, 101]) = false ∧ (l == [100, 111, 45, 110, 111, 116, 45, 101, 120, 101, 114, 99, 105, 115, 101]) = false) := by
  cases h : (l == [101, 120, 101, 114, 99, 105, 115, 101])
  · cases h2 : (l == [100, 111, 45, 110, 111, 116, 45, 101, 120, 101, 114, 99, 105, 115, 101]) <;> simp
  · exact .inl ⟨rfl, not_both h⟩
/-- What may be said of a strike's type and a rule: out of the money; else the rule 'atm-and-itm'; else in the money, or in the band. -/
theorem types (t r : List UInt8) :
    (t == [79, 84, 77]) = true ∨
    ((t == [79, 84, 77]) = false ∧ (r == [97, 116, 109, 45, 97, 110, 100, 45, 105, 116, 109]) = true ∧ (t == [73, 84, 77]) = true) ∨
    ((t == [79, 84, 77]) = false ∧ (r == [97, 116, 109, 45, 97, 110, 100, 45, 105, 116, 109]) = true ∧ (t == [73, 84, 77]) = false) ∨
    ((t == [79, 84, 77]) = false ∧ (r == [97, 116, 109, 45, 97, 110, 100, 45, 105, 116, 109]) = false ∧ (t == [73, 84, 77]) = true) ∨
    ((t == [79, 84, 77]) = false ∧ (r == [97, 116, 109, 45, 97, 110, 100, 45, 105, 116, 109]) = false ∧ (t == [73, 84, 77]) = false) := by
  cases (t == [79, 84, 77]) <;> cases (r == [97, 116, 109, 45, 97, 110, 100, 45, 105, 116, 109]) <;> cases (t == [73, 84, 77]) <;> simp
end Go.Proofs.Qxb6627948a.Walks
