/-
  THE SHELL OF A PROOF OF 'Rows.FnDecimalSizeStripLastDigitSaid' ('example.com/slotwise/slotwise/zzlaws_resp_b1.FnDecimalSizeStripLastDigit'), WRITTEN BY PROGRAM (proof-skeleton.mjs) off the guide's own print for that function. Not trusted: Lean checks it.
  The walk is filled in; all else is the guide's template at this function's number and types.
-/
import Derived.Test.Qxb6627898aRows
import Derived.WalkKit
import Derived.ProofKit
import Derived.OpenShut
import Derived.ShutString
import Derived.Test.Qxb6627898aWalks
namespace Go.Proofs.Qxb6627898a.fnDecimalSizeStripLastDigit
open Go.ChangeShapes Go.WideShapes Go.ChangeAt Go.RowKit
open Go.ChangeMaps (open_string shut_string)
set_option linter.unusedVariables false      -- a walk need not use every 'w<i>' (that an integer argument fits its kind)

theorem own : ownKnob Try.prog.godebug = none := by kernel_rfl

/-! ### STEP 1: THE WALK: the Go text returns true. 'Grown w w'': the world has at most new blocks (Derived/RowKit3.lean). Part the cases AHEAD of 'go_enter' where a test parts the walk; take each callee by a contract of your own. -/
theorem dig_zero {u s : Nat} (h : Plain.Dig u s) (hu : u < 10) : s = 0 := Plain.dig_unique h ⟨.inl rfl, by simpa using hu⟩
theorem dig_tens {u v s t : Nat} (h : Plain.Dig u s) (hu : 10 ≤ u) (hv : v = u / 10) (ht : Plain.Dig v t) : s = t + 1 := by
  subst hv
  exact Plain.dig_unique h (Plain.dig_strip hu ht)
theorem tdiv_ten (a : Int) (h : a ≤ -10) : a.tdiv 10 = -((-a) / 10) := by
  have h1 : a = -(-a) := by omega
  rw [h1, Int.neg_tdiv, Int.tdiv_eq_ediv_of_nonneg (by omega)]
  simp
theorem ret_true {b : Bool} (h : b = true) : Ending.returned (.bool b) = .returned (.bool true) := by rw [h]

theorem walk (a0 : Int) (w0 : (Lit.int .i64 a0).wf = true) (w : World) :
    Calls Try.prog 3 #[.int .i64 a0] w fun e w' => e = .returned (.bool true) ∧ Grown w w' := by
  have hb := bounds_i64 w0
  by_cases hs : a0 < 0
  · by_cases h10 : -10 < a0
    · go_enter Try.func3, Try.ntmps3
      go_wp2_with (go_at_call 5; refine (Walks.size_ng _ (by omega) (by omega) _).mono ?_; rintro e w' ⟨⟨s, hd, hs19, rfl⟩, rfl⟩)
      go_ret
      exact ⟨ret_true (by rw [dig_zero hd (by omega)]; rfl), Grown.refl _⟩
    · have htd : a0.tdiv 10 < 0 ∧ -9223372036854775808 ≤ a0.tdiv 10 ∧ (a0.tdiv 10).natAbs = a0.natAbs / 10 := by rw [tdiv_ten a0 (by omega)]; omega
      have HT : Hid ((a0.tdiv 10).natAbs = a0.natAbs / 10) := htd.2.2
      have h1 := htd.1
      have h2 := htd.2.1
      clear htd
      go_enter Try.func3, Try.ntmps3
      go_wp2_with fail
      refine (Walks.size_ng _ (by omega) (by omega) _).mono ?_
      rintro e w' ⟨⟨s, hd, hs19, rfl⟩, rfl⟩
      go_wp2_with fail
      refine (Walks.size_ng _ (by omega) (by omega) _).mono ?_
      rintro e w' ⟨⟨t, hd2, ht19, rfl⟩, rfl⟩
      go_wp2
      go_ret
      have e := dig_tens hd (by omega) HT.out hd2
      exact ⟨ret_true (by simp; omega), Grown.refl _⟩
  · by_cases h10 : a0 < 10
    · go_enter Try.func3, Try.ntmps3
      go_wp2_with (go_at_call 5; refine (Walks.size_nn _ (by omega) (by omega) _).mono ?_; rintro e w' ⟨⟨s, hd, hs19, rfl⟩, rfl⟩)
      go_ret
      exact ⟨ret_true (by rw [dig_zero hd (by omega)]; rfl), Grown.refl _⟩
    · go_enter Try.func3, Try.ntmps3
      go_wp2_with fail
      refine (Walks.size_nn _ (by omega) (by omega) _).mono ?_
      rintro e w' ⟨⟨s, hd, hs19, rfl⟩, rfl⟩
      go_wp2_with fail
      refine (Walks.size_nn _ (by omega) (by omega) _).mono ?_
      rintro e w' ⟨⟨t, hd2, ht19, rfl⟩, rfl⟩
      go_wp2
      go_ret
      have e := dig_tens hd (by omega) (by omega) hd2
      exact ⟨ret_true (by simp; omega), Grown.refl _⟩

/-! ### THE ROW's STEP: WRITTEN OUT: LEAVE IT -/
set_option maxRecDepth 100000 in
theorem lifted (os : Os) (started : os.Started) (H : Type) (enc : TypeId × Value → H) :
    ReturnsInHanded {} Try.checked os 3 .any (Rows.fnDecimalSizeStripLastDigitSpec.pre6 enc Try.prog Try.f3 Rows.fnDecimalSizeStripLastDigitRow.domain false) (Rows.fnDecimalSizeStripLastDigitSpec.post enc Try.prog Try.f3 false true false false) := by
  refine returnsInHanded_of_change (C := Try.checked) own started (by kernel_rfl) Try.func3
    (ChangeSpec.witness6 (enc := enc) (C := Try.checked) false ⟨#[], #[.int .i64 0], []⟩ 8 (by kernel_rfl) (by kernel_rfl) (by kernel_rfl) (by kernel_rfl)) ?_
  intro W base args ds gs before hval0 hW hcnd _
  have hval : ∀ (j : Nat) t v, Try.f3.params[j]? = some t → args[j]? = some v → Value.okWide Try.prog W .any base t v := hval0
  have hW' := hW
  obtain ⟨p, q, hA0, hV, rfl, hfz, hnd⟩ := hW
  have hA : DataW.TrodAll enc Try.prog W 0 (fun _ => true) true Try.f3.params.toList args.toList ds p := hA0
  rw [Try.params3] at hA hval
  obtain ⟨v0, vs0, d0, ds0, p0, q0, hargs, rfl, rfl, h0, r0⟩ := trodAll_cons hA
  obtain ⟨rfl, rfl, rfl⟩ := trodAll_nil r0
  obtain rfl : args = #[v0] := by cases args; simp_all
  obtain ⟨rfl, rfl⟩ := trodVars_none hV
  obtain ⟨a0, rfl, rfl, rfl, w0⟩ := open_int Try.underlying2 (hval 0 2 v0 rfl rfl) h0
  clear hA0 hval0
  simp only [List.append_nil] at hW'
  refine (walk a0 w0 W).mono fun e W' ⟨he, hg⟩ => ?_
  subst he
  exact ⟨_, rfl, post_of_same (pa := []) (pv := []) hW' (fun _ _ _ => (trodAll_cons_mk (shut_bool Try.underlying4 _) trodAll_mk0)) (fun sp _ => (trodAll_cons_mk (shut_int Try.underlying2 w0) trodAll_mk0)) (fun _ _ => rfl) rfl
    (hg.frame _) hg.2.1 (ok_one (by kernel_rfl) rfl (okWide_bool_mk Try.underlying4 _))⟩

theorem over : Rows.fnDecimalSizeStripLastDigitRow.holds Try.pinned (OpenSpec.ofChange Rows.fnDecimalSizeStripLastDigitSpec) :=
  OpenClaim.holds_of_wide 3 Try.f3 rfl rfl rfl rfl rfl rfl rfl ⟨rfl, rfl, rfl, rfl, rfl⟩ rfl rfl rfl rfl rfl (by kernel_rfl) Try.func3 (by kernel_rfl)
    (of_decide_eq_true (by kernel_rfl)) (by unfold Func.isWrapper; first | (rw [if_pos (by decide +kernel)]; kernel_rfl) | (rw [if_neg (by decide +kernel)]; exact ⟨rfl, rfl⟩))
    (fun os started H enc _ => lifted os started H enc)

/-- ████ THE STATEMENT ████ -/
theorem proved : Rows.FnDecimalSizeStripLastDigitSaid :=
  over
#print axioms proved
end Go.Proofs.Qxb6627898a.fnDecimalSizeStripLastDigit
