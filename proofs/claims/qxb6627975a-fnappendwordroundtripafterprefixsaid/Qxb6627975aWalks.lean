/-
  SEAT b6627975a: THE WALKS OF THE CALLEES THAT TOUCH NO MEMORY: the bound on the lengths (functions 5 and 9), the least header (10) below 2^21.
-/
import Derived.Test.Qxb6627975aRows
import Derived.WalkKit
import Derived.WalkSpells
namespace Go.Proofs.Qxb6627975a.Walks
open Go.RowKit

/-! ### the bound on the lengths (functions 5 and 9) -/
theorem bytes5_yes (a : Option Addr) (n c : Nat) (s t : ByteArray) (w : World) (h : n + s.size + t.size ≤ 1048576) :
    Calls Try.prog 5 #[.slice a n c, .string s, .string t] w fun e w' => e = .returned (.bool true) ∧ w' = w := by
  go_enter Try.func5, Try.ntmps5
  go_wp2
  go_ret
  exact ⟨rfl, rfl⟩
theorem bytes5_no (a : Option Addr) (n c : Nat) (s t : ByteArray) (w : World) (hn : n ≤ maxLen) (hs : s.size ≤ maxLen) (ht : t.size ≤ maxLen) (h : ¬ n + s.size + t.size ≤ 1048576) :
    Calls Try.prog 5 #[.slice a n c, .string s, .string t] w fun e w' => e = .returned (.bool false) ∧ w' = w := by
  unfold maxLen at hn hs ht
  go_enter Try.func5, Try.ntmps5
  go_wp2
  all_goals (go_ret; exact ⟨rfl, rfl⟩)
theorem bytes9_yes (a : Option Addr) (n c : Nat) (s t : ByteArray) (w : World) (h : n + s.size + t.size ≤ 1048576) :
    Calls Try.prog 9 #[.slice a n c, .string s, .string t] w fun e w' => e = .returned (.bool true) ∧ w' = w := by
  go_enter Try.func9, Try.ntmps9
  go_wp2
  go_ret
  exact ⟨rfl, rfl⟩
theorem bytes9_no (a : Option Addr) (n c : Nat) (s t : ByteArray) (w : World) (hn : n ≤ maxLen) (hs : s.size ≤ maxLen) (ht : t.size ≤ maxLen) (h : ¬ n + s.size + t.size ≤ 1048576) :
    Calls Try.prog 9 #[.slice a n c, .string s, .string t] w fun e w' => e = .returned (.bool false) ∧ w' = w := by
  unfold maxLen at hn hs ht
  go_enter Try.func9, Try.ntmps9
  go_wp2
  all_goals (go_ret; exact ⟨rfl, rfl⟩)

/-! ### the least header (function 10) -/
theorem least1 (n : Int) (h0 : 0 ≤ n) (h : n < 128) (w : World) :
    Calls Try.prog 10 #[.int .i64 n] w fun e w' => e = .returned (.int .i64 1) ∧ w' = w := by
  go_enter Try.func10, Try.ntmps10
  go_wp2
  refine wp_loop_rounds 1 ?_
  rw [rounds_succ]
  go_wp2
  go_ret
  exact ⟨rfl, rfl⟩
theorem least2 (n : Int) (h0 : 128 ≤ n) (h : n < 16384) (w : World) :
    Calls Try.prog 10 #[.int .i64 n] w fun e w' => e = .returned (.int .i64 2) ∧ w' = w := by
  go_enter Try.func10, Try.ntmps10
  go_wp2
  refine wp_loop_rounds 2 ?_
  rw [rounds_succ]
  go_wp2
  rw [rounds_succ]
  go_wp2
  go_ret
  exact ⟨rfl, rfl⟩
theorem least3 (n : Int) (h0 : 16384 ≤ n) (h : n < 2097152) (w : World) :
    Calls Try.prog 10 #[.int .i64 n] w fun e w' => e = .returned (.int .i64 3) ∧ w' = w := by
  go_enter Try.func10, Try.ntmps10
  go_wp2
  refine wp_loop_rounds 3 ?_
  rw [rounds_succ]
  go_wp2
  rw [rounds_succ]
  go_wp2
  rw [rounds_succ]
  go_wp2
  go_ret
  exact ⟨rfl, rfl⟩
end Go.Proofs.Qxb6627975a.Walks
