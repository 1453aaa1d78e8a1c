/-
  SEAT b6627975a: THE WALK OF zzb1ReadWord (function 8) where a word with a prefix of one, two or three bytes stands.
-/
import Derived.Test.Qxb6627975aWord
import Derived.Laws.IdiomStrings
namespace Go.Proofs.Qxb6627975a.Walks
open Go.RowKit

set_option maxHeartbeats 400000 in
theorem read1 (g N c i : Nat) (s : ByteArray) (q : Int) (w : World) (hN : N ≤ 4194304) (hc : N ≤ c) (hq0 : 0 ≤ q) (hq : q < 128) (hi : (i : Int) + 1 + q ≤ N)
    (h0 : w.cell? ⟨g, i, none⟩ = some (.int .u8 q))
    (hA : ∀ cc, (convert 22 9 (.slice (some ⟨g, i + 1, none⟩) (((i : Int) + 1 + q).toNat - (i + 1)) cc)).run Try.prog w = .ok (.string s) w)
    (hB : c = i + 1 → ∀ cc, (convert 22 9 (.slice (some ⟨g, 0, none⟩) (((i : Int) + 1 + q).toNat - (i + 1)) cc)).run Try.prog w = .ok (.string s) w) :
    Calls Try.prog 8 #[.slice (some ⟨g, 0, none⟩) N c, .int .i64 (i : Int)] w fun e w' => e = .returned (.tuple #[.string s, .int .i64 ((i : Int) + 1 + q), .bool true]) ∧ w' = w := by
  go_enter Try.func8, Try.ntmps8
  go_wp2_with fail
  refine wp_loop_rounds 1 ?_
  rw [rounds_succ]
  go_wp2_with fail
  refine (least1 _ (by omega) (by omega) _).mono ?_
  rintro e w' ⟨rfl, rfl⟩
  go_wp2_with fail
  all_goals (go_ret3; exact ⟨rfl, rfl⟩)

theorem wraps_i64 (n : Int) (h0 : 0 ≤ n) (h1 : n < 2 ^ 40) : IntKind.i64.wrap n = n := by rw [IntKind.wrap_i64]; omega
/-- 'n<<8 | b', b a byte. -/
theorem or8 (u x y : Int) (hu : u = x * 256) (h0 : 0 ≤ x) (h1 : x < 65536) (h2 : 0 ≤ y) (h3 : y < 256) : bits .or .i64 u y = x * 256 + y := by
  subst hu
  exact bits_join .i64 40 (by decide) wraps_i64 8 (x * 256) y (by omega) (by omega) (by omega) h2 (by omega) (by omega)

set_option maxHeartbeats 400000 in
theorem read2 (g N c i : Nat) (s : ByteArray) (x y : Int) (w : World) (hN : N ≤ 4194304) (hc : N ≤ c) (hx0 : 0 ≤ x) (hx1 : x < 64) (hy0 : 0 ≤ y) (hy1 : y < 256) (hlo : 128 ≤ x * 256 + y) (hi : (i : Int) + 2 + (x * 256 + y) ≤ N)
    (h0 : w.cell? ⟨g, i, none⟩ = some (.int .u8 (128 + x))) (h1 : w.cell? ⟨g, i + 1, none⟩ = some (.int .u8 y))
    (hA : ∀ cc, (convert 22 9 (.slice (some ⟨g, i + 2, none⟩) (((i : Int) + 2 + (x * 256 + y)).toNat - (i + 2)) cc)).run Try.prog w = .ok (.string s) w) :
    Calls Try.prog 8 #[.slice (some ⟨g, 0, none⟩) N c, .int .i64 (i : Int)] w fun e w' => e = .returned (.tuple #[.string s, .int .i64 ((i : Int) + 2 + (x * 256 + y)), .bool true]) ∧ w' = w := by
  have hor := or8 ((128 + x - 128) * 256) x y (by omega) hx0 (by omega) hy0 hy1
  go_enter Try.func8, Try.ntmps8
  go_wp2_with fail
  refine wp_loop_rounds 2 ?_
  rw [rounds_succ]
  go_wp2_with fail
  rw [rounds_succ]
  go_wp2_with fail
  refine (least2 _ (by omega) (by omega) _).mono ?_
  rintro e w' ⟨rfl, rfl⟩
  go_wp2_with fail
  all_goals (go_ret3; exact ⟨rfl, rfl⟩)

set_option maxHeartbeats 400000 in
theorem read3 (g N c i : Nat) (s : ByteArray) (x y z : Int) (w : World) (hN : N ≤ 4194304) (hc : N ≤ c) (hx0 : 0 ≤ x) (hx1 : x < 32) (hy0 : 0 ≤ y) (hy1 : y < 256) (hz0 : 0 ≤ z) (hz1 : z < 256) (hlo : 16384 ≤ (x * 256 + y) * 256 + z) (hi : (i : Int) + 3 + ((x * 256 + y) * 256 + z) ≤ N)
    (h0 : w.cell? ⟨g, i, none⟩ = some (.int .u8 (192 + x))) (h1 : w.cell? ⟨g, i + 1, none⟩ = some (.int .u8 y)) (h2 : w.cell? ⟨g, i + 2, none⟩ = some (.int .u8 z))
    (hA : ∀ cc, (convert 22 9 (.slice (some ⟨g, i + 3, none⟩) (((i : Int) + 3 + ((x * 256 + y) * 256 + z)).toNat - (i + 3)) cc)).run Try.prog w = .ok (.string s) w) :
    Calls Try.prog 8 #[.slice (some ⟨g, 0, none⟩) N c, .int .i64 (i : Int)] w fun e w' => e = .returned (.tuple #[.string s, .int .i64 ((i : Int) + 3 + ((x * 256 + y) * 256 + z)), .bool true]) ∧ w' = w := by
  have hor := or8 ((192 + x - 192) * 256) x y (by omega) hx0 (by omega) hy0 hy1
  have hor2 := or8 ((x * 256 + y) * 256) (x * 256 + y) z rfl (by omega) (by omega) hz0 hz1
  go_enter Try.func8, Try.ntmps8
  go_wp2_with fail
  refine wp_loop_rounds 3 ?_
  rw [rounds_succ]
  go_wp2_with fail
  rw [rounds_succ]
  go_wp2_with fail
  rw [rounds_succ]
  go_wp2_with fail
  refine (least3 _ (by omega) (by omega) _).mono ?_
  rintro e w' ⟨rfl, rfl⟩
  go_wp2_with fail
  all_goals (go_ret3; exact ⟨rfl, rfl⟩)
end Go.Proofs.Qxb6627975a.Walks
