/-
  SEAT b6627975a: THE WALK OF THE LAW FnAppendWordRoundTripAfterPrefix (function 3), where the lengths sum to at most 1<<20.
-/
import Derived.Test.Qxb6627975aOwn
import Derived.Deep.QuietTactic
import Derived.BigQuiet
namespace Go.Proofs.Qxb6627975a.Walks
open Go.RowKit

/-- ReadWord, the prefix's length under a name of its own. -/
theorem read_at (g N c i H : Nat) (s : ByteArray) (P R : List Value) (w : World) (hH : H = (head s.size).length) (hN : N ≤ 4194304) (hc : N ≤ c) (hs : s.size < 2097152) (hP : P.length = i)
    (hlen : (P ++ cells (head s.size) ++ Lib.strCells s ++ R).length = N) (hX : ∀ j, j < N → w.cell? ⟨g, j, none⟩ = (P ++ cells (head s.size) ++ Lib.strCells s ++ R)[j]?) (I : Int) (hI : I = (i : Int)) :
    Calls Try.prog 8 #[.slice (some ⟨g, 0, none⟩) N c, .int .i64 I] w fun e w' => e = .returned (.tuple #[.string s, .int .i64 (I + ((H : Int) + (s.size : Int))), .bool true]) ∧ w' = w := by
  have h := read_any g N c i s P R w hN hc hs hP hlen hX
  rw [← hI, ← hH, Int.add_assoc] at h
  exact h

set_option maxHeartbeats 1600000 in
set_option maxRecDepth 10000 in
theorem trip_law (a0 : Option Addr) (n c : Nat) (zs : List Int) (s t : ByteArray) (w : World) (hb : n + s.size + t.size ≤ 1048576) (hz : zs.length = n)
    (hsrc : (a0 = none ∧ n = 0 ∧ c = 0) ∨ ∃ x, a0 = some x ∧ ∀ j, j < n → w.cell? (x.add j) = some (.int .u8 (zs.getD j 0))) :
    Calls Try.prog 3 #[.slice a0 n c, .string s, .string t] w fun e w' => e = .returned (.bool true) ∧ Below w.heap.size w w' := by
  have HS := hid hsrc
  have HZ := hid hz
  clear hsrc hz
  have hp := head_pos (s.size : Int)
  have hl := head_le (s.size : Int)
  obtain ⟨H, hH⟩ : ∃ H, H = (head (s.size : Int)).length := ⟨_, rfl⟩
  rw [← hH] at hp hl
  have HH := hid hH
  clear hH
  have hpT := head_pos (t.size : Int)
  have hlT := head_le (t.size : Int)
  obtain ⟨T, hT⟩ : ∃ T, T = (head (t.size : Int)).length := ⟨_, rfl⟩
  rw [← hT] at hpT hlT
  have HT := hid hT
  clear hT
  have C1 := hid (clone_any a0 n c zs w HZ.out (by omega) HS.out)
  go_enter Try.func3, Try.ntmps3
  go_wp2_with fail
  refine (bytes5_yes _ _ _ _ _ _ (by omega)).mono ?_
  rintro e w' ⟨rfl, rfl⟩
  go_wp2_with fail
  refine C1.out.mono ?_
  rintro e w1 ⟨a1, rfl, o1, b1⟩
  have O1 := hid o1
  have B1 := hid b1
  clear o1 b1 C1
  have C2 := hid (clone_any a1 n n zs w1 HZ.out (by omega) (own_src O1.out))
  go_wp2_with fail
  refine C2.out.mono ?_
  rintro e w2 ⟨a2, rfl, o2, b2⟩
  have O2 := hid o2
  have B2 := hid b2
  clear o2 b2 C2
  have O1' := hid (own_below O1.out B2.out)
  have ne12 := hid (own_later O1.out O2.out)
  have C3 := hid (word_at a1 n n _ H s _ w2 HH.out O1'.out (Nat.le_trans B1.out.size B2.out.size) (by omega) (by omega))
  go_wp2_with fail
  refine C3.out.mono ?_
  rintro e w3 ⟨gx, cx, rfl, o3⟩
  have K3 := hid (own_onto O2.out o3 (Nat.le_refl _) ne12.out)
  have X3 := hid o3.1
  have B3 := hid o3.2.1
  clear o3 C3 ne12 O1' O1 O2
  have C4 := hid (word_at (some ⟨gx, 0, none⟩) (n + (H + s.size)) cx _ T t _ w3 HT.out X3.out (Nat.le_trans (Nat.le_trans B1.out.size B2.out.size) B3.out.size) (by omega) (by omega))
  have ne3 := hid (own_apart K3.out X3.out (by omega))
  go_wp2_with fail
  refine C4.out.mono ?_
  rintro e w4 ⟨gy, cy, rfl, o4⟩
  have Y4 := hid o4.1
  have K4 := hid (own_onto K3.out o4 (by omega) ne3.out)
  have B14 := hid (((B1.out.trans (B2.out.mono B1.out.size)).trans B3.out).trans o4.2.1)
  clear o4 C4 X3 K3 B1 B2 B3 ne3
  go_wp2_with fail
  go_loopw [9] (fun i wr => ∃ k m : Nat, k ≤ n ∧ i = .int .i64 (k : Int) ∧ wr = w4.drewN m) (fun i _ => n - (intOf i).toNat)
  case atStart => exact ⟨0, 0, Nat.zero_le _, rfl, rfl⟩
  case round =>
    obtain ⟨k, m, hk, rfl, rfl⟩ := hrel
    by_cases hlt : k < n
    · obtain ⟨gk, ck, _, hvk, _⟩ := own_shape K4.out (by omega)
      simp only [Value.slice.injEq] at hvk
      obtain ⟨rfl, _, rfl⟩ := hvk
      have hzl := HZ.out
      have hck : w4.cell? ⟨gk, k, none⟩ = some (.int .u8 (zs.getD k 0)) := by
        rw [K4.out.cellAt k (by omega)]; simp [cells, List.getD, show k < zs.length by omega]
      have hcy : w4.cell? ⟨gy, k, none⟩ = some (.int .u8 (zs.getD k 0)) := by
        rw [Y4.out.cellAt k (by omega), List.append_assoc, List.getElem?_append_left (by simp [cells]; omega)]; simp [cells, List.getD, show k < zs.length by omega]
      obtain ⟨u, hu⟩ : ∃ u, u = zs.getD k 0 := ⟨_, rfl⟩
      rw [← hu] at hck hcy
      clear hu hzl
      have hi1 : (k : Int) < (n : Int) := by omega
      have hi2 : (k : Int) < (n : Int) + ((H : Int) + (s.size : Int)) + ((T : Int) + (t.size : Int)) := by omega
      go_wp2_with fail
      go_quiet (fail)
      go_wp2_with fail
      go_roundw
      case rel => exact ⟨k + 1, _, by omega, by go_num, rfl⟩
      case measure => simp [intOf]; omega
    · have HL : Hid ((cells zs).length = n) := by have := HZ.out; simpa [cells, Hid] using this
      clear K4 HZ
      have hle : n + (H + s.size) + (T + t.size) ≤ cy := by
        obtain ⟨_, _, _, hv, _, _, hle, _⟩ := own_shape Y4.out (by omega)
        simp only [Value.slice.injEq] at hv
        omega
      have e1 : cells zs ++ (cells (head (s.size : Int)) ++ Lib.strCells s) ++ (cells (head (t.size : Int)) ++ Lib.strCells t) = cells zs ++ cells (head (s.size : Int)) ++ Lib.strCells s ++ (cells (head (t.size : Int)) ++ Lib.strCells t) := by simp only [List.append_assoc]
      have e2 : cells zs ++ (cells (head (s.size : Int)) ++ Lib.strCells s) ++ (cells (head (t.size : Int)) ++ Lib.strCells t) = cells zs ++ (cells (head (s.size : Int)) ++ Lib.strCells s) ++ cells (head (t.size : Int)) ++ Lib.strCells t ++ [] := by simp only [List.append_assoc, List.append_nil]
      have hYl := Y4.out.1
      rw [Nat.mul_one] at hYl
      have R1 := hid (read_at gy (n + (H + s.size) + (T + t.size)) cy n H s (cells zs) (cells (head (t.size : Int)) ++ Lib.strCells t) (w4.drewN m) HH.out (by omega) hle (by omega) HL.out
        (by rw [← e1]; exact hYl) (fun j hj => by rw [← e1, World.cell?_drewN]; exact Y4.out.cellAt j (by omega)) (n : Int) rfl)
      have R2 := hid (read_at gy (n + (H + s.size) + (T + t.size)) cy (n + (H + s.size)) T t (cells zs ++ (cells (head (s.size : Int)) ++ Lib.strCells s)) [] (w4.drewN m) HT.out (by omega) hle (by omega)
        (by simp only [List.length_append, HL.out, Lib.strCells_length, HH.out]; simp [cells])
        (by rw [← e2]; exact hYl) (fun j hj => by rw [← e2, World.cell?_drewN]; exact Y4.out.cellAt j (by omega)) ((n : Int) + ((H : Int) + (s.size : Int))) (by omega))
      clear e1 e2 hYl HL Y4
      go_wp2_with fail
      refine R1.out.mono ?_
      rintro e w5 ⟨rfl, rfl⟩
      clear R1
      go_wp2_with fail
      refine R2.out.mono ?_
      rintro e w5 ⟨rfl, rfl⟩
      clear R2
      go_wp2_with fail
      go_ret
      exact ⟨rfl, below_drewN B14.out _⟩
end Go.Proofs.Qxb6627975a.Walks
