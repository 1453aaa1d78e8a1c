/-
  SEAT b6628005a: THE WALKS OF THE CALLEES: the bound on the length (functions 5 and 7) and IsDashComment (6; strings.HasPrefix is walked in place).
-/
import Derived.Test.Qxb6628005aRows
import Derived.Test.Qxb6628005aPlain
import Derived.WalkKit
import Derived.WalkSpells
import Derived.Lib.Strings
namespace Go.Proofs.Qxb6628005a.Walks
open Go.RowKit Go.Proofs.Qxb6628005a.Plain

theorem bytes5_yes (s : ByteArray) (i : Int) (w : World) (h : s.size ≤ 1048576) :
    Calls Try.prog 5 #[.string s, .int .i64 i] w fun e w' => e = .returned (.bool true) ∧ w' = w := by
  go_enter Try.func5, Try.ntmps5
  go_wp2
  go_ret
  exact ⟨rfl, rfl⟩
theorem bytes5_no (s : ByteArray) (i : Int) (w : World) (h : ¬ s.size ≤ 1048576) :
    Calls Try.prog 5 #[.string s, .int .i64 i] w fun e w' => e = .returned (.bool false) ∧ w' = w := by
  go_enter Try.func5, Try.ntmps5
  go_wp2
  all_goals (go_ret; exact ⟨rfl, rfl⟩)
theorem bytes7_yes (s : ByteArray) (i : Int) (w : World) (h : s.size ≤ 1048576) :
    Calls Try.prog 7 #[.string s, .int .i64 i] w fun e w' => e = .returned (.bool true) ∧ w' = w := by
  go_enter Try.func7, Try.ntmps7
  go_wp2
  go_ret
  exact ⟨rfl, rfl⟩
theorem bytes7_no (s : ByteArray) (i : Int) (w : World) (h : ¬ s.size ≤ 1048576) :
    Calls Try.prog 7 #[.string s, .int .i64 i] w fun e w' => e = .returned (.bool false) ∧ w' = w := by
  go_enter Try.func7, Try.ntmps7
  go_wp2
  all_goals (go_ret; exact ⟨rfl, rfl⟩)

/-- A comment begins at i. -/
def isDash (s : ByteArray) (i : Nat) : Bool := dashB (s.data.toList.drop i)

theorem len_data (s : ByteArray) : s.data.toList.length = s.size := by rw [Array.length_toList]; rfl
theorem two_of (s : ByteArray) (i : Nat) : ((s.extract i s.size).extract 0 2).toList = (s.data.toList.drop i).take 2 := by
  have hl := len_data s
  rw [Lib.extract_toList, Lib.extract_data, List.drop_zero, List.take_of_length_le (i := s.size - i) (by rw [List.length_drop]; omega)]
theorem at_data (s : ByteArray) (k : Nat) (h : k < s.size) : s.data.toList[k]? = some s[k] := by
  have h' : k < s.data.toList.length := by rw [len_data]; exact h
  rw [List.getElem?_eq_getElem h']
  rfl
theorem cut3 (s : ByteArray) (i : Nat) (h : i + 2 < s.size) : ∃ a b r, s.data.toList.drop i = a :: b :: s[i + 2] :: r := by
  have hl := len_data s
  match hd : s.data.toList.drop i with
  | [] => have := congrArg List.length hd; simp at this; omega
  | [_] => have := congrArg List.length hd; simp at this; omega
  | [_, _] => have := congrArg List.length hd; simp at this; omega
  | a :: b :: c :: r =>
    have e : (s.data.toList.drop i)[2]? = some s[i + 2] := by rw [List.getElem?_drop]; exact at_data s (i + 2) h
    rw [hd] at e
    simp at e
    exact ⟨a, b, r, by rw [e]⟩

theorem d1 (s : ByteArray) (i : Nat) (h : (!((s.extract i s.size).extract 0 2).toList == [45, 45]) = true) : isDash s i = false := by
  rw [two_of] at h
  unfold isDash
  match hd : s.data.toList.drop i with
  | [] => rfl
  | [_] => rfl
  | a :: b :: r =>
    rw [hd] at h
    simp only [List.take_succ_cons, List.take_zero, Bool.not_eq_true'] at h
    cases ha : (a == (45 : UInt8))
    · simp [dashB, ha]
    · cases hb : (b == (45 : UInt8))
      · simp [dashB, hb]
      · rw [beq_iff_eq] at ha hb
        subst ha
        subst hb
        exact absurd h (by decide)
theorem d2 (s : ByteArray) (i : Nat) (h : (!((s.extract i s.size).extract 0 2).toList == [45, 45]) = false) (he : (i : Int) + 2 = (s.size : Int)) : isDash s i = true := by
  rw [two_of] at h
  have hl := len_data s
  unfold isDash
  have e : (s.data.toList.drop i).take 2 = s.data.toList.drop i := List.take_of_length_le (by rw [List.length_drop]; omega)
  rw [e] at h
  simp only [Bool.not_eq_false', beq_iff_eq] at h
  rw [h]
  rfl
theorem d3 (s : ByteArray) (i : Nat) (h : (!((s.extract i s.size).extract 0 2).toList == [45, 45]) = false) (hne : ¬ (i : Int) + 2 = (s.size : Int)) (hlt : i + 2 < s.size) :
    ((i : Int) + 2 == (s.size : Int) || decide ((s[i + 2].toNat : Int) ≤ 32)) = isDash s i := by
  rw [two_of] at h
  obtain ⟨a, b, r, hd⟩ := cut3 s i hlt
  unfold isDash
  rw [hd] at h ⊢
  simp only [List.take_succ_cons, List.take_zero, Bool.not_eq_false', beq_iff_eq, List.cons.injEq, and_true] at h
  obtain ⟨rfl, rfl⟩ := h
  have e : ((i : Int) + 2 == (s.size : Int)) = false := by rw [beq_eq_false_iff_ne]; exact hne
  rw [e]
  simp [dashB, okTail]
  omega
theorem d4 (s : ByteArray) (i : Nat) (h : ((s.size - i : Nat) : Int) < 2) : isDash s i = false := by
  have hl := len_data s
  exact dash_short _ (by rw [List.length_drop]; omega)

theorem ret_bool {a b : Bool} (h : a = b) : Ending.returned (.bool a) = .returned (.bool b) := by rw [h]

theorem dash_nat (s : ByteArray) (i : Nat) (hs : s.size ≤ 2000000) (hi : i ≤ s.size) (w : World) :
    Calls Try.prog 6 #[.string s, .int .i64 (i : Int)] w fun e w' => e = .returned (.bool (isDash s i)) ∧ w' = w := by
  go_enter Try.func6, Try.ntmps6
  go_wp2
  · go_ret
    exact ⟨ret_bool (d1 s i ‹_›).symm, rfl⟩
  · go_ret
    exact ⟨ret_bool (d2 s i ‹_› ‹_›).symm, rfl⟩
  · have hlt : i + 2 < s.size := by omega
    go_ret
    exact ⟨ret_bool (d3 s i ‹_› ‹_› hlt), rfl⟩
  · go_ret
    exact ⟨ret_bool (d4 s i ‹_›).symm, rfl⟩
/-- IsDashComment at a place that the caller has reckoned; the answer under a name of its own. -/
theorem dash_at (s : ByteArray) (i : Nat) (I : Int) (D : Bool) (hI : I = (i : Int)) (hD : isDash s i = D) (hs : s.size ≤ 2000000) (hi : i ≤ s.size) (w : World) :
    Calls Try.prog 6 #[.string s, .int .i64 I] w fun e w' => e = .returned (.bool D) ∧ w' = w := by
  rw [hI, ← hD]
  exact dash_nat s i hs hi w

/-! ### the answer at other texts -/
theorem dash_cut (s : ByteArray) (i : Nat) : isDash (s.extract i s.size) 0 = isDash s i := by
  have hl := len_data s
  unfold isDash
  rw [Lib.extract_data, List.drop_zero, List.take_of_length_le (by rw [List.length_drop]; omega)]
theorem dash_put (s : ByteArray) (i : Nat) : isDash (⟨#[120]⟩ ++ s) (i + 1) = isDash s i := by
  unfold isDash
  rw [ByteArray.data_append]
  simp
theorem dash_window (s : ByteArray) (i e : Nat) (h : e = i + 3 ∨ (e = s.size ∧ s.size ≤ i + 3)) : isDash (s.extract i e) 0 = isDash s i := by
  have hl := len_data s
  unfold isDash
  rw [Lib.extract_data, List.drop_zero]
  rcases h with rfl | ⟨rfl, h⟩
  · rw [Nat.add_sub_cancel_left]
    exact dash_take3 _
  · rw [List.take_of_length_le (by rw [List.length_drop]; omega)]
theorem size_put (s : ByteArray) : ((⟨#[120]⟩ : ByteArray) ++ s).size = s.size + 1 := by
  rw [ByteArray.size_append]
  show 1 + s.size = s.size + 1
  omega

theorem cut2 (s : ByteArray) (i : Nat) (h : i + 1 < s.size) : ∃ r, s.data.toList.drop i = s[i] :: s[i + 1] :: r := by
  have hl := len_data s
  match hd : s.data.toList.drop i with
  | [] => have := congrArg List.length hd; simp at this; omega
  | [_] => have := congrArg List.length hd; simp at this; omega
  | a :: b :: r =>
    have e0 : (s.data.toList.drop i)[0]? = some s[i] := by rw [List.getElem?_drop]; exact at_data s i (by omega)
    have e1 : (s.data.toList.drop i)[1]? = some s[i + 1] := by rw [List.getElem?_drop]; exact at_data s (i + 1) h
    rw [hd] at e0 e1
    simp at e0 e1
    exact ⟨r, by rw [e0, e1]⟩
theorem byte_45 (b : UInt8) : (b == 45) = ((b.toNat : Int) == 45) := by
  rw [Bool.eq_iff_iff, beq_iff_eq, beq_iff_eq]
  constructor
  · intro h; subst h; rfl
  · intro h; exact UInt8.toNat_inj.1 (by show b.toNat = 45; omega)

/-- THE RUN FROM i TO j: its bytes lie above the blank. -/
def Run (s : ByteArray) (i j : Nat) : Prop := ∀ t b, i ≤ t → t < j → s.data.toList[t]? = some b → 32 < b.toNat
theorem run_none (s : ByteArray) (i : Nat) : Run s i i := fun t _ h1 h2 => by omega
theorem run_more (s : ByteArray) (i j : Nat) (h : Run s i j) (hj : j < s.size) (hb : (32 : Int) < (s[j].toNat : Int)) : Run s i (j + 1) := by
  intro t b h1 h2 h3
  by_cases e : t = j
  · subst e
    rw [at_data s t hj] at h3
    simp only [Option.some.injEq] at h3
    subst h3
    omega
  · exact h t b h1 (by omega) h3
/-- The run ends at j. -/
def Ends (s : ByteArray) (j : Nat) : Prop := ∀ b, s.data.toList[j]? = some b → b.toNat ≤ 32
theorem ends_size (s : ByteArray) (j : Nat) (h : s.size ≤ j) : Ends s j := by
  have hl := len_data s
  intro b hb
  have := (List.getElem?_eq_some_iff.1 hb).1
  omega
theorem ends_low (s : ByteArray) (j : Nat) (hj : j < s.size) (hb : ¬ (32 : Int) < (s[j].toNat : Int)) : Ends s j := by
  intro b h
  rw [at_data s j hj] at h
  simp only [Option.some.injEq] at h
  subst h
  omega
theorem run_not (s : ByteArray) (i j : Nat) (hij : i ≤ j) (hj : j ≤ s.size) (h : Run s i j) (he : Ends s j) (h2 : ¬ j = i + 2) : isDash s i = false := by
  have hl := len_data s
  refine dash_run_not _ (j - i) (by rw [List.length_drop]; omega) ?_ ?_ (by omega)
  · intro t b ht hb
    rw [List.getElem?_drop] at hb
    exact h (i + t) b (by omega) (by omega) hb
  · intro b hb
    rw [List.getElem?_drop, show i + (j - i) = j by omega] at hb
    exact he b hb
theorem run_two (s : ByteArray) (i : Nat) (hj : i + 1 < s.size) (he : Ends s (i + 2)) : isDash s i = (((s[i].toNat : Int) == 45) && ((s[i + 1].toNat : Int) == 45)) := by
  obtain ⟨r, hr⟩ := cut2 s i hj
  unfold isDash
  rw [hr, dash_run_two, byte_45, byte_45]
  intro c hc
  rw [← hr, List.getElem?_drop] at hc
  exact he c hc

/-- The text cut right behind two bytes at i. -/
theorem dash_two (s : ByteArray) (i : Nat) (h : i + 1 < s.size) : isDash (s.extract 0 (i + 2)) i = (((s[i].toNat : Int) == 45) && ((s[i + 1].toNat : Int) == 45)) := by
  obtain ⟨r, hr⟩ := cut2 s i h
  unfold isDash
  rw [Lib.extract_data, List.drop_zero, Nat.sub_zero, List.drop_take, hr, Nat.add_sub_cancel_left, dash_take2, byte_45, byte_45]
/-- Where a comment begins none begins one byte on. -/
theorem dash_one_on (s : ByteArray) (i : Nat) (h : isDash s i = true) : isDash s (i + 1) = false := by
  unfold isDash at h ⊢
  have := dash_next _ h
  rw [List.drop_drop] at this
  exact this
end Go.Proofs.Qxb6628005a.Walks
