/-
  SEAT b6627975a: THE WALK OF THE LAW FnAppendWordPrefixFreeShortestHeader (function 4), where the lengths sum to at most 1<<20.
-/
import Derived.Test.Qxb6627975aOwn
import Derived.Deep.QuietTactic
import Derived.BigQuiet
namespace Go.Proofs.Qxb6627975a.Walks
open Go.RowKit

set_option maxHeartbeats 1600000 in
set_option maxRecDepth 10000 in
theorem free_law (a0 : Option Addr) (n c : Nat) (zs : List Int) (s t : ByteArray) (w : World) (hb : n + s.size + t.size ≤ 1048576) (hz : zs.length = n)
    (hsrc : (a0 = none ∧ n = 0 ∧ c = 0) ∨ ∃ x, a0 = some x ∧ ∀ j, j < n → w.cell? (x.add j) = some (.int .u8 (zs.getD j 0))) :
    Calls Try.prog 4 #[.slice a0 n c, .string s, .string t] w fun e w' => e = .returned (.bool true) ∧ Below w.heap.size w w' := by
  have HS := hid hsrc
  have HZ := hid hz
  clear hsrc hz
  have hp := head_pos (s.size : Int)
  have hl := head_le (s.size : Int)
  obtain ⟨H, hH⟩ : ∃ H, H = (head (s.size : Int)).length := ⟨_, rfl⟩
  rw [← hH] at hp hl
  have HH := hid hH
  clear hH
  have hpT := head_pos (t.size : Int)
  have hlT := head_le (t.size : Int)
  have hm1 := head_mono (s.size : Int) (t.size : Int)
  have hm2 := head_mono (t.size : Int) (s.size : Int)
  obtain ⟨T, hT⟩ : ∃ T, T = (head (t.size : Int)).length := ⟨_, rfl⟩
  rw [← hT] at hpT hlT hm1 hm2
  rw [← HH.out] at hm1 hm2
  have HT := hid hT
  have HM1 := hid hm1
  have HM2 := hid hm2
  clear hT hm1 hm2
  have C1 := hid (clone_any a0 n c zs w HZ.out (by omega) HS.out)
  go_enter Try.func4, Try.ntmps4
  go_wp2_with fail
  refine (bytes9_yes _ _ _ _ _ _ (by omega)).mono ?_
  rintro e w' ⟨rfl, rfl⟩
  go_wp2_with fail
  refine C1.out.mono ?_
  rintro e w1 ⟨a1, rfl, o1, b1⟩
  have O1 := hid o1
  have B1 := hid b1
  clear o1 b1 C1
  have C2 := hid (clone_any a1 n n zs w1 HZ.out (by omega) (own_src O1.out))
  go_wp2_with fail
  refine C2.out.mono ?_
  rintro e w2 ⟨a2, rfl, o2, b2⟩
  have O2 := hid o2
  have B2 := hid b2
  clear o2 b2 C2
  have O1' := hid (own_below O1.out B2.out)
  have ne12 := hid (own_later O1.out O2.out)
  have C3 := hid (word_at a1 n n _ H s _ w2 HH.out O1'.out (Nat.le_trans B1.out.size B2.out.size) (by omega) (by omega))
  go_wp2_with fail
  refine C3.out.mono ?_
  rintro e w3 ⟨gx, cx, rfl, o3⟩
  have K3 := hid (own_onto O2.out o3 (Nat.le_refl _) ne12.out)
  have X3 := hid o3.1
  have B3 := hid o3.2.1
  clear o3 C3 ne12 O1' O1 O2
  have C4 := hid (word_nil w3.heap.size H s w3 HH.out rfl (by omega))
  go_wp2_with fail
  refine C4.out.mono ?_
  rintro e w4 ⟨gy, cy, rfl, o4, b4⟩
  have Y4 := hid o4
  have B4 := hid b4
  have X4 := hid (own_below X3.out b4)
  have K4 := hid (own_below K3.out b4)
  have B14 := hid (((B1.out.trans (B2.out.mono B1.out.size)).trans B3.out).trans (B4.out.mono (Nat.le_trans (Nat.le_trans B1.out.size B2.out.size) B3.out.size)))
  clear o4 b4 C4 X3 K3 B1 B2 B3 B4
  go_wp2_with fail
  go_loopw [10] (fun i wr => ∃ k m : Nat, k ≤ n ∧ i = .int .i64 (k : Int) ∧ wr = w4.drewN m) (fun i _ => n - (intOf i).toNat)
  case atStart => exact ⟨0, 0, Nat.zero_le _, rfl, rfl⟩
  case round =>
    obtain ⟨k, m, hk, rfl, rfl⟩ := hrel
    by_cases hlt : k < n
    · obtain ⟨gk, ck, _, hvk, _⟩ := own_shape K4.out (by omega)
      simp only [Value.slice.injEq] at hvk
      obtain ⟨rfl, _, rfl⟩ := hvk
      have hzl := HZ.out
      have hck : w4.cell? ⟨gk, k, none⟩ = some (.int .u8 (zs.getD k 0)) := by
        rw [K4.out.cellAt k (by omega)]; simp [cells, List.getD, show k < zs.length by omega]
      have hcx : w4.cell? ⟨gx, k, none⟩ = some (.int .u8 (zs.getD k 0)) := by
        rw [X4.out.cellAt k (by omega), List.getElem?_append_left (by simp [cells]; omega)]; simp [cells, List.getD, show k < zs.length by omega]
      obtain ⟨u, hu⟩ : ∃ u, u = zs.getD k 0 := ⟨_, rfl⟩
      rw [← hu] at hck hcx
      clear hu hzl
      have hi1 : (k : Int) < (n : Int) := by omega
      have hi2 : (k : Int) < (n : Int) + ((H : Int) + (s.size : Int)) := by omega
      go_wp2_with fail
      go_quiet (fail)
      go_wp2_with fail
      go_roundw
      case rel => exact ⟨k + 1, _, by omega, by go_num, rfl⟩
      case measure => simp [intOf]; omega
    · have HL : Hid ((cells zs).length = n) := by have := HZ.out; simpa [cells, Hid] using this
      clear K4 HZ
      go_wp2_with fail
      go_loopw [11] (fun i wr => ∃ k m : Nat, k ≤ H + s.size ∧ i = .int .i64 (k : Int) ∧ wr = w4.drewN m) (fun i _ => H + s.size - (intOf i).toNat)
      case atStart => exact ⟨0, m, Nat.zero_le _, rfl, rfl⟩
      case round =>
        obtain ⟨j, p, hj, rfl, rfl⟩ := hrel
        by_cases hlt2 : j < H + s.size
        · obtain ⟨u, hu⟩ := word_cell s j (by rw [← HH.out]; exact hlt2)
          have hcy : w4.cell? ⟨gy, j, none⟩ = some (.int .u8 u) := by
            rw [Y4.out.cellAt j (by omega)]; exact hu
          have hcx : w4.cell? ⟨gx, n + j, none⟩ = some (.int .u8 u) := by
            rw [X4.out.cellAt (n + j) (by omega), List.getElem?_append_right (by rw [HL.out]; omega), HL.out, Nat.add_sub_cancel_left]; exact hu
          clear hu
          have hi1 : (j : Int) < (H : Int) + (s.size : Int) := by omega
          have hi2 : (n : Int) + (j : Int) < (n : Int) + ((H : Int) + (s.size : Int)) := by omega
          go_wp2_with fail
          go_quiet (fail)
          go_wp2_with fail
          go_roundw
          case rel => exact ⟨j + 1, _, by omega, by go_num, rfl⟩
          case measure => simp [intOf]; omega
        · have L1 := hid (least_any (s.size : Int) (by omega) (by omega) (w4.drewN p))
          rw [← HH.out] at L1
          have C5 := hid (word_nil (w4.drewN p).heap.size T t (w4.drewN p) HT.out rfl (by omega))
          go_wp2_with fail
          refine L1.out.mono ?_
          rintro e w5 ⟨rfl, rfl⟩
          clear L1
          have hcy : H + s.size ≤ cy := by
            obtain ⟨_, _, _, hv, _, _, hle, _⟩ := own_shape Y4.out (by omega)
            simp only [Value.slice.injEq] at hv
            omega
          have hcA : ∀ cc, (convert 22 9 (.slice (some ⟨gy, H, none⟩) s.size cc)).run Try.prog (w4.drewN p) = .ok (.string s) (w4.drewN p) := by
            intro cc
            refine conv s _ _ cc _ rfl (fun i hi => ?_)
            rw [Addr.add_lit, World.cell?_drewN, Y4.out.cellAt (H + i) (by omega)]
            have e : (cells (head (s.size : Int))).length = H := by rw [HH.out]; simp [cells]
            rw [List.getElem?_append_right (by rw [e]; omega), e, Nat.add_sub_cancel_left]
          have hcB : cy = H → ∀ cc, (convert 22 9 (.slice (some ⟨gy, 0, none⟩) s.size cc)).run Try.prog (w4.drewN p) = .ok (.string s) (w4.drewN p) := by
            intro hcH cc
            exact conv s _ _ cc _ rfl (fun i hi => by omega)
          go_wp2_with fail
          all_goals
            clear hcA hcB
            refine C5.out.mono ?_
            rintro e w6 ⟨gz, cz, rfl, o6, b6⟩
            have L2 := hid (least_any (t.size : Int) (by omega) (by omega) w6)
            rw [← HT.out] at L2
            have B6 : Hid (Below w'.heap.size w' w6) := (below_drewN B14.out p).trans (b6.mono B14.out.size)
            clear o6 b6 C5
            go_wp2_with fail
            refine L2.out.mono ?_
            rintro e w7 ⟨rfl, rfl⟩
            clear L2 Y4 X4 hcy
            rcases Nat.lt_trichotomy s.size t.size with hst | hst | hst
            · have h3 : H ≤ T := HM1.out (by omega)
              go_wp2_with fail
              go_ret
              exact ⟨rfl, B6.out⟩
            · have h3 : H ≤ T := HM1.out (by omega)
              have h4 : T ≤ H := HM2.out (by omega)
              have h5 : s.size ≤ t.size := by omega
              have h6 : t.size ≤ s.size := by omega
              clear hst
              go_wp2_with fail
              go_ret
              exact ⟨rfl, B6.out⟩
            · have h4 : T ≤ H := HM2.out (by omega)
              go_wp2_with fail
              go_ret
              exact ⟨rfl, B6.out⟩
end Go.Proofs.Qxb6627975a.Walks
