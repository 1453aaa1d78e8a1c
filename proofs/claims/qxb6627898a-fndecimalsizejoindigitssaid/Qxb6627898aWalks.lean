/-
  SEAT b6627898a: THE WALK OF 'resp.DecimalSize' (function 5), shared by both laws.
-/
import Derived.Test.Qxb6627898aRows
import Derived.Test.Qxb6627898aPlain
import Derived.WalkKit
namespace Go.Proofs.Qxb6627898a.Walks
open Go.RowKit Go.Proofs.Qxb6627898a.Plain

set_option maxHeartbeats 400000 in
/-- Nought and above: one byte a digit. -/
theorem size_pos (n : Nat) (hn : n ≤ 9223372036854775807) (w : World) :
    Calls Try.prog 5 #[.int .i64 (n : Int)] w fun e w' => (∃ s : Nat, Dig n s ∧ s ≤ 19 ∧ e = .returned (.int .i64 ((s : Int) + 1))) ∧ w' = w := by
  go_enter Try.func5, Try.ntmps5
  go_wp2
  go_loop [3, 4] (fun t u => ∃ k q : Nat, (k = 0 ∨ 10 ^ k ≤ n) ∧ Hid (n / 10 ^ k = q) ∧ q ≤ n ∧ t = .int .i64 ((k : Int) + 1) ∧ u = .int .u64 (q : Int)) (fun _ u => (intOf u).toNat)
  case atStart => exact ⟨0, n, .inl rfl, (by simp : n / 10 ^ 0 = n), Nat.le_refl _, rfl, rfl⟩
  case round =>
    obtain ⟨k, q, hk, HQ, hq, rfl, rfl⟩ := hrel
    have hk19 := rounds_le hk (by omega)
    have HK : Hid (k = 0 ∨ 10 ^ k ≤ n) := hk
    clear hk
    by_cases hlt : 10 ≤ q
    · go_wp2
      go_round
      case rel => exact ⟨k + 1, q / 10, .inr (dig_round (by rw [HQ.out]; exact hlt)), (by rw [← div_step, HQ.out] : n / 10 ^ (k + 1) = q / 10), by omega, by go_num, by go_num⟩
      case measure => simp [intOf]; omega
    · go_wp2
      go_ret
      exact ⟨⟨k, dig_end HK.out (by rw [HQ.out]; omega), hk19, rfl⟩, rfl⟩

theorem neg_neg_u64 (n : Nat) (hn : n ≤ 9223372036854775808) : IntKind.u64.wrap (-IntKind.u64.wrap (-(n : Int))) = (n : Int) := by
  simp only [IntKind.wrap_u64]
  omega

set_option maxHeartbeats 400000 in
/-- Below nought: the sign besides. -/
theorem size_neg (n : Nat) (h1 : 1 ≤ n) (hn : n ≤ 9223372036854775808) (w : World) :
    Calls Try.prog 5 #[.int .i64 (-(n : Int))] w fun e w' => (∃ s : Nat, Dig n s ∧ s ≤ 19 ∧ e = .returned (.int .i64 ((s : Int) + 2))) ∧ w' = w := by
  go_enter Try.func5, Try.ntmps5
  go_wp2
  go_loop [3, 4] (fun t u => ∃ k q : Nat, (k = 0 ∨ 10 ^ k ≤ n) ∧ Hid (n / 10 ^ k = q) ∧ q ≤ n ∧ t = .int .i64 ((k : Int) + 2) ∧ u = .int .u64 (q : Int)) (fun _ u => (intOf u).toNat)
  case atStart => exact ⟨0, n, .inl rfl, (by simp : n / 10 ^ 0 = n), Nat.le_refl _, rfl, by rw [neg_neg_u64 n hn]⟩
  case round =>
    obtain ⟨k, q, hk, HQ, hq, rfl, rfl⟩ := hrel
    have hk19 := rounds_le hk (by omega)
    have HK : Hid (k = 0 ∨ 10 ^ k ≤ n) := hk
    clear hk
    by_cases hlt : 10 ≤ q
    · go_wp2
      go_round
      case rel => exact ⟨k + 1, q / 10, .inr (dig_round (by rw [HQ.out]; exact hlt)), (by rw [← div_step, HQ.out] : n / 10 ^ (k + 1) = q / 10), by omega, by go_num, by go_num⟩
      case measure => simp [intOf]; omega
    · go_wp2
      go_ret
      exact ⟨⟨k, dig_end HK.out (by rw [HQ.out]; omega), hk19, rfl⟩, rfl⟩

/-- The two, over an integer as the callers hand it. -/
theorem size_nn (n : Int) (h0 : 0 ≤ n) (hn : n ≤ 9223372036854775807) (w : World) :
    Calls Try.prog 5 #[.int .i64 n] w fun e w' => (∃ s : Nat, Dig n.natAbs s ∧ s ≤ 19 ∧ e = .returned (.int .i64 ((s : Int) + 1))) ∧ w' = w := by
  have e : n = ((n.natAbs : Nat) : Int) := by omega
  have h := size_pos n.natAbs (by omega) w
  rw [← e] at h
  exact h
theorem size_ng (n : Int) (h0 : n < 0) (hn : -9223372036854775808 ≤ n) (w : World) :
    Calls Try.prog 5 #[.int .i64 n] w fun e w' => (∃ s : Nat, Dig n.natAbs s ∧ s ≤ 19 ∧ e = .returned (.int .i64 ((s : Int) + 2))) ∧ w' = w := by
  have e : n = -((n.natAbs : Nat) : Int) := by omega
  have h := size_neg n.natAbs (by omega) (by omega) w
  rw [← e] at h
  exact h
end Go.Proofs.Qxb6627898a.Walks
