/-
  THE SHELL OF A PROOF OF 'Rows.FnDecimalSizeJoinDigitsSaid' ('example.com/slotwise/slotwise/zzlaws_resp_b1.FnDecimalSizeJoinDigits'), WRITTEN BY PROGRAM (proof-skeleton.mjs) off the guide's own print for that function. Not trusted: Lean checks it.
  The walk is filled in; all else is the guide's template at this function's number and types.
-/
import Derived.Test.Qxb6627898aRows
import Derived.WalkKit
import Derived.ProofKit
import Derived.OpenShut
import Derived.ShutString
import Derived.Test.Qxb6627898aWalks
namespace Go.Proofs.Qxb6627898a.fnDecimalSizeJoinDigits
open Go.ChangeShapes Go.WideShapes Go.ChangeAt Go.RowKit
open Go.ChangeMaps (open_string shut_string)
set_option linter.unusedVariables false      -- a walk need not use every 'w<i>' (that an integer argument fits its kind)

theorem own : ownKnob Try.prog.godebug = none := by kernel_rfl

/-! ### STEP 1: THE WALK: the Go text returns true. 'Grown w w'': the world has at most new blocks (Derived/RowKit3.lean). Part the cases AHEAD of 'go_enter' where a test parts the walk; take each callee by a contract of your own. -/
theorem ret_true {b : Bool} (h : b = true) : Ending.returned (.bool b) = .returned (.bool true) := by rw [h]

theorem room {a b q : Int} (hq : 1 ≤ q) (h : a ≤ (9223372036854775807 - b) / q) : a * q ≤ 9223372036854775807 - b :=
  (Int.le_ediv_iff_mul_le (by omega)).1 h

/-- The joined number's digits: at 'a' and 'b' as Go hands them. -/
theorem joined {a b : Int} {k q s t : Nat} (ha : 1 ≤ a) (hb : 0 ≤ b) (hq : 10 ^ k = q) (hbq : b < (q : Int)) {x y : Int} (hx : x.natAbs = (a * (q : Int) + b).natAbs) (hy : y.natAbs = a.natAbs)
    (ht : Plain.Dig x.natAbs t) (hs : Plain.Dig y.natAbs s) : t = s + k := by
  rw [hy] at hs
  obtain ⟨a', rfl⟩ : ∃ a' : Nat, a = (a' : Int) := ⟨a.toNat, by omega⟩
  obtain ⟨b', rfl⟩ : ∃ b' : Nat, b = (b' : Int) := ⟨b.toNat, by omega⟩
  have e : ((a' : Int) * (q : Int) + (b' : Int)) = ((a' * q + b' : Nat) : Int) := by simp
  rw [e, Int.natAbs_natCast] at hx
  rw [hx, ← hq] at ht
  rw [Int.natAbs_natCast] at hs
  exact Plain.dig_unique ht (Plain.dig_join (by omega) (by omega) hs)

set_option maxHeartbeats 800000 in
theorem walk (a0 : Int) (a1 : Int) (a2 : Int) (w0 : (Lit.int .i64 a0).wf = true) (w1 : (Lit.int .i64 a1).wf = true) (w2 : (Lit.int .i64 a2).wf = true) (w : World) :
    Calls Try.prog 4 #[.int .i64 a0, .int .i64 a1, .int .i64 a2] w fun e w' => e = .returned (.bool true) ∧ Grown w w' := by
  have hb0 := bounds_i64 w0
  have hb1 := bounds_i64 w1
  have hb2 := bounds_i64 w2
  clear w0 w1 w2
  by_cases hk0 : a1 < 0
  · go_enter Try.func4, Try.ntmps4
    go_wp2
    go_ret
    exact ⟨rfl, Grown.refl _⟩
  by_cases hk1 : 18 < a1
  · go_enter Try.func4, Try.ntmps4
    go_wp2
    go_ret
    exact ⟨rfl, Grown.refl _⟩
  obtain ⟨k, rfl⟩ : ∃ k : Nat, a1 = (k : Int) := ⟨a1.toNat, by omega⟩
  go_enter Try.func4, Try.ntmps4
  go_wp2
  go_loop [7, 8] (fun p i => ∃ j q : Nat, j ≤ k ∧ Hid (10 ^ j = q) ∧ 1 ≤ q ∧ q ≤ 1000000000000000000 ∧ p = .int .i64 (q : Int) ∧ i = .int .i64 (j : Int)) (fun _ i => k - (intOf i).toNat)
  case atStart => exact ⟨0, 1, Nat.zero_le _, (rfl : 10 ^ 0 = 1), by omega, by omega, rfl, rfl⟩
  case round =>
    obtain ⟨j, q, hj, HQ, hq1, hq18, rfl, rfl⟩ := hrel
    by_cases hlt : j < k
    · have hle := Plain.pow_le18 (k := j + 1) (by omega)
      rw [Nat.pow_succ, HQ.out] at hle
      go_wp2
      go_round
      case rel => exact ⟨j + 1, q * 10, by omega, (by rw [Nat.pow_succ, HQ.out] : 10 ^ (j + 1) = q * 10), by omega, hle, by go_num, by go_num⟩
      case measure => simp [intOf]; omega
    · obtain rfl : j = k := by omega
      by_cases hA : 1 ≤ a0 ∧ 0 ≤ a2 ∧ a2 < (q : Int)
      · obtain ⟨hA1, hA2, hA3⟩ := hA
        by_cases hM : a0 ≤ (9223372036854775807 - a2) / (q : Int)
        · have hmul := room (by omega) hM
          have hpos : 1 ≤ a0 * (q : Int) := Int.mul_pos (a := a0) (b := (q : Int)) (by omega) (by omega)
          go_wp2_with fail
          refine (Walks.size_nn _ (by omega) (by omega) _).mono ?_
          rintro e w' ⟨⟨t1, ht1, ht1b, rfl⟩, rfl⟩
          go_wp2_with fail
          refine (Walks.size_nn _ (by omega) (by omega) _).mono ?_
          rintro e w' ⟨⟨s1, hs1, hs1b, rfl⟩, rfl⟩
          have e1 := joined hA1 hA2 HQ.out hA3 rfl rfl ht1 hs1
          subst e1
          go_wp2_with fail
          refine (Walks.size_ng _ (by omega) (by omega) _).mono ?_
          rintro e w' ⟨⟨t2, ht2, ht2b, rfl⟩, rfl⟩
          go_wp2_with fail
          refine (Walks.size_ng _ (by omega) (by omega) _).mono ?_
          rintro e w' ⟨⟨s2, hs2, hs2b, rfl⟩, rfl⟩
          have e2 := joined hA1 hA2 HQ.out hA3 (Int.natAbs_neg _) (Int.natAbs_neg _) ht2 hs2
          subst e2
          go_wp2_with fail
          go_ret
          exact ⟨ret_true (by simp; omega), Grown.refl _⟩
        · go_wp2_with fail
          go_ret
          exact ⟨rfl, Grown.refl _⟩
      · go_wp2_with fail
        all_goals (first | omega | (go_ret; exact ⟨rfl, Grown.refl _⟩))

/-! ### THE ROW's STEP: WRITTEN OUT: LEAVE IT -/
set_option maxRecDepth 100000 in
theorem lifted (os : Os) (started : os.Started) (H : Type) (enc : TypeId × Value → H) :
    ReturnsInHanded {} Try.checked os 4 .any (Rows.fnDecimalSizeJoinDigitsSpec.pre6 enc Try.prog Try.f4 Rows.fnDecimalSizeJoinDigitsRow.domain false) (Rows.fnDecimalSizeJoinDigitsSpec.post enc Try.prog Try.f4 false true false false) := by
  refine returnsInHanded_of_change (C := Try.checked) own started (by kernel_rfl) Try.func4
    (ChangeSpec.witness6 (enc := enc) (C := Try.checked) false ⟨#[], #[.int .i64 0, .int .i64 0, .int .i64 0], []⟩ 8 (by kernel_rfl) (by kernel_rfl) (by kernel_rfl) (by kernel_rfl)) ?_
  intro W base args ds gs before hval0 hW hcnd _
  have hval : ∀ (j : Nat) t v, Try.f4.params[j]? = some t → args[j]? = some v → Value.okWide Try.prog W .any base t v := hval0
  have hW' := hW
  obtain ⟨p, q, hA0, hV, rfl, hfz, hnd⟩ := hW
  have hA : DataW.TrodAll enc Try.prog W 0 (fun _ => true) true Try.f4.params.toList args.toList ds p := hA0
  rw [Try.params4] at hA hval
  obtain ⟨v0, vs0, d0, ds0, p0, q0, hargs, rfl, rfl, h0, r0⟩ := trodAll_cons hA
  obtain ⟨v1, vs1, d1, ds1, p1, q1, rfl, rfl, rfl, h1, r1⟩ := trodAll_cons r0
  obtain ⟨v2, vs2, d2, ds2, p2, q2, rfl, rfl, rfl, h2, r2⟩ := trodAll_cons r1
  obtain ⟨rfl, rfl, rfl⟩ := trodAll_nil r2
  obtain rfl : args = #[v0, v1, v2] := by cases args; simp_all
  obtain ⟨rfl, rfl⟩ := trodVars_none hV
  obtain ⟨a0, rfl, rfl, rfl, w0⟩ := open_int Try.underlying2 (hval 0 2 v0 rfl rfl) h0
  obtain ⟨a1, rfl, rfl, rfl, w1⟩ := open_int Try.underlying3 (hval 1 3 v1 rfl rfl) h1
  obtain ⟨a2, rfl, rfl, rfl, w2⟩ := open_int Try.underlying2 (hval 2 2 v2 rfl rfl) h2
  clear hA0 hval0
  simp only [List.append_nil] at hW'
  refine (walk a0 a1 a2 w0 w1 w2 W).mono fun e W' ⟨he, hg⟩ => ?_
  subst he
  exact ⟨_, rfl, post_of_same (pa := []) (pv := []) hW' (fun _ _ _ => (trodAll_cons_mk (shut_bool Try.underlying4 _) trodAll_mk0)) (fun sp _ => (trodAll_cons_mk (shut_int Try.underlying2 w0) (trodAll_cons_mk (shut_int Try.underlying3 w1) (trodAll_cons_mk (shut_int Try.underlying2 w2) trodAll_mk0)))) (fun _ _ => rfl) rfl
    (hg.frame _) hg.2.1 (ok_one (by kernel_rfl) rfl (okWide_bool_mk Try.underlying4 _))⟩

theorem over : Rows.fnDecimalSizeJoinDigitsRow.holds Try.pinned (OpenSpec.ofChange Rows.fnDecimalSizeJoinDigitsSpec) :=
  OpenClaim.holds_of_wide 4 Try.f4 rfl rfl rfl rfl rfl rfl rfl ⟨rfl, rfl, rfl, rfl, rfl⟩ rfl rfl rfl rfl rfl (by kernel_rfl) Try.func4 (by kernel_rfl)
    (of_decide_eq_true (by kernel_rfl)) (by unfold Func.isWrapper; first | (rw [if_pos (by decide +kernel)]; kernel_rfl) | (rw [if_neg (by decide +kernel)]; exact ⟨rfl, rfl⟩))
    (fun os started H enc _ => lifted os started H enc)

/-- ████ THE STATEMENT ████ -/
theorem proved : Rows.FnDecimalSizeJoinDigitsSaid :=
  over
#print axioms proved
end Go.Proofs.Qxb6627898a.fnDecimalSizeJoinDigits
