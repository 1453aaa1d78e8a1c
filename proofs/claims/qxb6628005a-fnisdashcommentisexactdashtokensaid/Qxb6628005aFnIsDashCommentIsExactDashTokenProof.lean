/-
  THE SHELL OF A PROOF OF 'Rows.FnIsDashCommentIsExactDashTokenSaid' ('example.com/nextkey/nextkey/zzlaws_internal_sqltext_b1.FnIsDashCommentIsExactDashToken'), WRITTEN BY PROGRAM (proof-skeleton.mjs) off the guide's own print for that function. Not trusted: Lean checks it.
  The walk is filled in; all else is the guide's template at this function's number and types.
-/
import Derived.Test.Qxb6628005aRows
import Derived.WalkKit
import Derived.ProofKit
import Derived.OpenShut
import Derived.ShutString
import Derived.Test.Qxb6628005aWalks
namespace Go.Proofs.Qxb6628005a.fnIsDashCommentIsExactDashToken
open Go.ChangeShapes Go.WideShapes Go.ChangeAt Go.RowKit
open Go.ChangeMaps (open_string shut_string)
set_option linter.unusedVariables false      -- a walk need not use every 'w<i>' (that an integer argument fits its kind)

theorem own : ownKnob Try.prog.godebug = none := by kernel_rfl

/-! ### STEP 1: THE WALK: the Go text returns true. 'Grown w w'': the world has at most new blocks (Derived/RowKit3.lean). Part the cases AHEAD of 'go_enter' where a test parts the walk; take each callee by a contract of your own. -/
set_option maxHeartbeats 1600000 in
theorem walk (a0 : ByteArray) (a1 : Int) (w0 : a0.size ≤ maxLen) (w1 : (Lit.int .i64 a1).wf = true) (w : World) :
    Calls Try.prog 3 #[.string a0, .int .i64 a1] w fun e w' => e = .returned (.bool true) ∧ Grown w w' := by
  have hb1 := bounds_i64 w1
  clear w0 w1
  by_cases hb : a0.size ≤ 1048576
  · by_cases hi0 : a1 < 0
    · go_enter Try.func3, Try.ntmps3
      go_wp2_with (go_at_call 5; refine (Walks.bytes5_yes _ _ _ hb).mono ?_; rintro e w' ⟨rfl, rfl⟩)
      go_ret
      exact ⟨rfl, Grown.refl _⟩
    by_cases hi1 : (a0.size : Int) < a1
    · go_enter Try.func3, Try.ntmps3
      go_wp2_with (go_at_call 5; refine (Walks.bytes5_yes _ _ _ hb).mono ?_; rintro e w' ⟨rfl, rfl⟩)
      go_ret
      exact ⟨rfl, Grown.refl _⟩
    obtain ⟨i, rfl⟩ : ∃ i : Nat, a1 = (i : Int) := ⟨a1.toNat, by omega⟩
    have hi : i ≤ a0.size := by omega
    obtain ⟨D, hD⟩ : ∃ D, Walks.isDash a0 i = D := ⟨_, rfl⟩
    have HD : Hid (Walks.isDash a0 i = D) := hD
    clear hD hb1 hi0 hi1
    have hadd : ∀ wx : World, (Op.stringOp .add ⟨#[120]⟩ a0).run Try.prog wx = .ok (.string (⟨#[120]⟩ ++ a0)) wx := fun wx => run_string_add_sum wx _ _ (by show 1 + a0.size ≤ _; omega)
    go_enter Try.func3, Try.ntmps3
    go_wp2_with fail
    refine (Walks.bytes5_yes _ _ _ hb).mono ?_
    rintro e w' ⟨rfl, rfl⟩
    go_wp2_with fail
    refine (Walks.dash_at a0 i (i : Int) D rfl HD.out (by omega) hi _).mono ?_
    rintro e w' ⟨rfl, rfl⟩
    go_wp2_with fail
    go_loop [6] (fun t => ∃ j : Nat, i ≤ j ∧ j ≤ a0.size ∧ Hid (Walks.Run a0 i j) ∧ t = .int .i64 (j : Int)) (fun t => a0.size - (intOf t).toNat)
    case atStart => exact ⟨i, Nat.le_refl _, hi, Walks.run_none _ _, rfl⟩
    case round =>
      obtain ⟨j, hij, hj, HR, rfl⟩ := hrel
      by_cases hlt : j < a0.size
      · by_cases hgt : (32 : Int) < (a0[j].toNat : Int)
        · go_wp2_with fail
          go_round
          case rel => exact ⟨j + 1, by omega, by omega, Walks.run_more _ _ _ HR.out hlt hgt, by go_num⟩
          case measure => simp [intOf]; omega
        · have HE : Hid (Walks.Ends a0 j) := Walks.ends_low _ _ hlt hgt
          by_cases h2 : j = i + 2
          · subst h2
            have hi1 : i < a0.size := by omega
            have hi2 : i + 1 < a0.size := by omega
            have ht := Walks.run_two a0 i hi2 HE.out
            rw [HD.out] at ht
            cases hA : ((a0[i].toNat : Int) == 45)
            · rw [hA, Bool.false_and] at ht
              subst ht
              clear HE HR
              go_wp2_with fail
              refine (Walks.dash_at _ 0 0 false rfl ((Walks.dash_cut a0 i).trans HD.out) (by simp only [ByteArray.size_extract]; omega) (Nat.zero_le _) _).mono ?_
              rintro e w' ⟨rfl, rfl⟩
              go_wp2_with fail
              refine (Walks.dash_at _ (i + 1) _ false (by omega) ((Walks.dash_put a0 i).trans HD.out) (by rw [Walks.size_put]; omega) (by rw [Walks.size_put]; omega) _).mono ?_
              rintro e w' ⟨rfl, rfl⟩
              go_wp2_with fail
              go_ret
              exact ⟨rfl, Grown.refl _⟩
            · cases hB : ((a0[i + 1].toNat : Int) == 45)
              all_goals
                rw [hA, hB] at ht
                simp only [Bool.and_self, Bool.and_false] at ht
                subst ht
                clear HE HR
                go_wp2_with fail
                refine (Walks.dash_at _ 0 0 _ rfl ((Walks.dash_cut a0 i).trans HD.out) (by simp only [ByteArray.size_extract]; omega) (Nat.zero_le _) _).mono ?_
                rintro e w' ⟨rfl, rfl⟩
                go_wp2_with fail
                refine (Walks.dash_at _ (i + 1) _ _ (by omega) ((Walks.dash_put a0 i).trans HD.out) (by rw [Walks.size_put]; omega) (by rw [Walks.size_put]; omega) _).mono ?_
                rintro e w' ⟨rfl, rfl⟩
                go_wp2_with fail
                go_ret
                exact ⟨rfl, Grown.refl _⟩
          · have hD0 := Walks.run_not a0 i j hij hj HR.out HE.out h2
            rw [HD.out] at hD0
            subst hD0
            clear HE HR
            go_wp2_with fail
            refine (Walks.dash_at _ 0 0 false rfl ((Walks.dash_cut a0 i).trans HD.out) (by simp only [ByteArray.size_extract]; omega) (Nat.zero_le _) _).mono ?_
            rintro e w' ⟨rfl, rfl⟩
            go_wp2_with fail
            refine (Walks.dash_at _ (i + 1) _ false (by omega) ((Walks.dash_put a0 i).trans HD.out) (by rw [Walks.size_put]; omega) (by rw [Walks.size_put]; omega) _).mono ?_
            rintro e w' ⟨rfl, rfl⟩
            go_wp2_with fail
            go_ret
            exact ⟨rfl, Grown.refl _⟩
      · have HE : Hid (Walks.Ends a0 j) := Walks.ends_size _ _ (by omega)
        by_cases h2 : j = i + 2
        · subst h2
          have hi1 : i < a0.size := by omega
          have hi2 : i + 1 < a0.size := by omega
          have ht := Walks.run_two a0 i hi2 HE.out
          rw [HD.out] at ht
          cases hA : ((a0[i].toNat : Int) == 45)
          · rw [hA, Bool.false_and] at ht
            subst ht
            clear HE HR
            go_wp2_with fail
            refine (Walks.dash_at _ 0 0 false rfl ((Walks.dash_cut a0 i).trans HD.out) (by simp only [ByteArray.size_extract]; omega) (Nat.zero_le _) _).mono ?_
            rintro e w' ⟨rfl, rfl⟩
            go_wp2_with fail
            refine (Walks.dash_at _ (i + 1) _ false (by omega) ((Walks.dash_put a0 i).trans HD.out) (by rw [Walks.size_put]; omega) (by rw [Walks.size_put]; omega) _).mono ?_
            rintro e w' ⟨rfl, rfl⟩
            go_wp2_with fail
            go_ret
            exact ⟨rfl, Grown.refl _⟩
          · cases hB : ((a0[i + 1].toNat : Int) == 45)
            all_goals
              rw [hA, hB] at ht
              simp only [Bool.and_self, Bool.and_false] at ht
              subst ht
              clear HE HR
              go_wp2_with fail
              refine (Walks.dash_at _ 0 0 _ rfl ((Walks.dash_cut a0 i).trans HD.out) (by simp only [ByteArray.size_extract]; omega) (Nat.zero_le _) _).mono ?_
              rintro e w' ⟨rfl, rfl⟩
              go_wp2_with fail
              refine (Walks.dash_at _ (i + 1) _ _ (by omega) ((Walks.dash_put a0 i).trans HD.out) (by rw [Walks.size_put]; omega) (by rw [Walks.size_put]; omega) _).mono ?_
              rintro e w' ⟨rfl, rfl⟩
              go_wp2_with fail
              go_ret
              exact ⟨rfl, Grown.refl _⟩
        · have hD0 := Walks.run_not a0 i j hij hj HR.out HE.out h2
          rw [HD.out] at hD0
          subst hD0
          clear HE HR
          go_wp2_with fail
          refine (Walks.dash_at _ 0 0 false rfl ((Walks.dash_cut a0 i).trans HD.out) (by simp only [ByteArray.size_extract]; omega) (Nat.zero_le _) _).mono ?_
          rintro e w' ⟨rfl, rfl⟩
          go_wp2_with fail
          refine (Walks.dash_at _ (i + 1) _ false (by omega) ((Walks.dash_put a0 i).trans HD.out) (by rw [Walks.size_put]; omega) (by rw [Walks.size_put]; omega) _).mono ?_
          rintro e w' ⟨rfl, rfl⟩
          go_wp2_with fail
          go_ret
          exact ⟨rfl, Grown.refl _⟩
  · go_enter Try.func3, Try.ntmps3
    go_wp2_with (go_at_call 5; refine (Walks.bytes5_no _ _ _ hb).mono ?_; rintro e w' ⟨rfl, rfl⟩)
    go_ret
    exact ⟨rfl, Grown.refl _⟩

/-! ### THE ROW's STEP: WRITTEN OUT: LEAVE IT -/
set_option maxRecDepth 100000 in
theorem lifted (os : Os) (started : os.Started) (H : Type) (enc : TypeId × Value → H) :
    ReturnsInHanded {} Try.checked os 3 .any (Rows.fnIsDashCommentIsExactDashTokenSpec.pre6 enc Try.prog Try.f3 Rows.fnIsDashCommentIsExactDashTokenRow.domain false) (Rows.fnIsDashCommentIsExactDashTokenSpec.post enc Try.prog Try.f3 false true false false) := by
  refine returnsInHanded_of_change (C := Try.checked) own started (by kernel_rfl) Try.func3
    (ChangeSpec.witness6 (enc := enc) (C := Try.checked) false ⟨#[], #[.string ByteArray.empty, .int .i64 0], []⟩ 8 (by kernel_rfl) (by kernel_rfl) (by kernel_rfl) (by kernel_rfl)) ?_
  intro W base args ds gs before hval0 hW hcnd _
  have hval : ∀ (j : Nat) t v, Try.f3.params[j]? = some t → args[j]? = some v → Value.okWide Try.prog W .any base t v := hval0
  have hW' := hW
  obtain ⟨p, q, hA0, hV, rfl, hfz, hnd⟩ := hW
  have hA : DataW.TrodAll enc Try.prog W 0 (fun _ => true) true Try.f3.params.toList args.toList ds p := hA0
  rw [Try.params3] at hA hval
  obtain ⟨v0, vs0, d0, ds0, p0, q0, hargs, rfl, rfl, h0, r0⟩ := trodAll_cons hA
  obtain ⟨v1, vs1, d1, ds1, p1, q1, rfl, rfl, rfl, h1, r1⟩ := trodAll_cons r0
  obtain ⟨rfl, rfl, rfl⟩ := trodAll_nil r1
  obtain rfl : args = #[v0, v1] := by cases args; simp_all
  obtain ⟨rfl, rfl⟩ := trodVars_none hV
  obtain ⟨a0, rfl, rfl, rfl, w0⟩ := open_string Try.underlying9 (hval 0 9 v0 rfl rfl) h0
  obtain ⟨a1, rfl, rfl, rfl, w1⟩ := open_int Try.underlying3 (hval 1 3 v1 rfl rfl) h1
  clear hA0 hval0
  simp only [List.append_nil] at hW'
  refine (walk a0 a1 w0 w1 W).mono fun e W' ⟨he, hg⟩ => ?_
  subst he
  exact ⟨_, rfl, post_of_same (pa := []) (pv := []) hW' (fun _ _ _ => (trodAll_cons_mk (shut_bool Try.underlying4 _) trodAll_mk0)) (fun sp _ => (trodAll_cons_mk (shut_string Try.underlying9 w0) (trodAll_cons_mk (shut_int Try.underlying3 w1) trodAll_mk0))) (fun _ _ => rfl) rfl
    (hg.frame _) hg.2.1 (ok_one (by kernel_rfl) rfl (okWide_bool_mk Try.underlying4 _))⟩

theorem over : Rows.fnIsDashCommentIsExactDashTokenRow.holds Try.pinned (OpenSpec.ofChange Rows.fnIsDashCommentIsExactDashTokenSpec) :=
  OpenClaim.holds_of_wide 3 Try.f3 rfl rfl rfl rfl rfl rfl rfl ⟨rfl, rfl, rfl, rfl, rfl⟩ rfl rfl rfl rfl rfl (by kernel_rfl) Try.func3 (by kernel_rfl)
    (of_decide_eq_true (by kernel_rfl)) (by unfold Func.isWrapper; first | (rw [if_pos (by decide +kernel)]; kernel_rfl) | (rw [if_neg (by decide +kernel)]; exact ⟨rfl, rfl⟩))
    (fun os started H enc _ => lifted os started H enc)

/-- ████ THE STATEMENT ████ -/
theorem proved : Rows.FnIsDashCommentIsExactDashTokenSaid :=
  over
#print axioms proved
end Go.Proofs.Qxb6628005a.fnIsDashCommentIsExactDashToken
