/-
  THE PLAIN LAW of seat b6628005a: no Go in sight. 'dashB l': the bytes l begin with two dashes, and behind them stands nothing or a byte up to the blank.
-/
namespace Go.Proofs.Qxb6628005a.Plain

def okTail : List UInt8 → Bool
  | [] => true
  | c :: _ => decide (c.toNat ≤ 32)
def dashB : List UInt8 → Bool
  | a :: b :: r => (a == 45) && ((b == 45) && okTail r)
  | _ => false

theorem dash_take3 (l : List UInt8) : dashB (l.take 3) = dashB l := by
  match l with
  | [] => rfl
  | [_] => rfl
  | [_, _] => rfl
  | _ :: _ :: _ :: _ => rfl

theorem dash_take2 (a b : UInt8) (r : List UInt8) : dashB ((a :: b :: r).take 2) = ((a == 45) && (b == 45)) := by
  simp [dashB, okTail]

theorem dash_short (l : List UInt8) (h : l.length < 2) : dashB l = false := by
  match l with
  | [] => rfl
  | [_] => rfl
  | _ :: _ :: _ => simp at h; omega

/-- Where a comment begins none begins one byte on. -/
theorem dash_next (l : List UInt8) (h : dashB l = true) : dashB (l.drop 1) = false := by
  match l with
  | [] => rfl
  | [_] => rfl
  | [_, _] => rfl
  | a :: b :: c :: r =>
    simp only [dashB, okTail, Bool.and_eq_true, decide_eq_true_eq] at h
    have hc : (c == (45 : UInt8)) = false := by
      rw [beq_eq_false_iff_ne]
      intro e
      subst e
      exact absurd h.2.2 (by decide)
    simp [dashB, hc]

/-- The run of bytes above the blank is m long: then a comment begins just where m is 2 and both are dashes. -/
theorem dash_run_not (l : List UInt8) (m : Nat) (hm : m ≤ l.length) (hrun : ∀ j b, j < m → l[j]? = some b → 32 < b.toNat) (hend : ∀ b, l[m]? = some b → b.toNat ≤ 32) (h2 : m ≠ 2) : dashB l = false := by
  match l with
  | [] => rfl
  | [_] => rfl
  | a :: b :: r =>
    cases hd : dashB (a :: b :: r)
    · rfl
    · exfalso
      simp only [dashB, Bool.and_eq_true, beq_iff_eq] at hd
      obtain ⟨rfl, rfl, ht⟩ := hd
      match m with
      | 0 => exact absurd (hend 45 rfl) (by decide)
      | 1 => exact absurd (hend 45 rfl) (by decide)
      | 2 => exact h2 rfl
      | k + 3 =>
        match r with
        | [] => simp at hm
        | c :: r' =>
          simp only [okTail, decide_eq_true_eq] at ht
          have := hrun 2 c (by omega) rfl
          omega
theorem dash_run_two (a b : UInt8) (r : List UInt8) (hend : ∀ c, (a :: b :: r)[2]? = some c → c.toNat ≤ 32) : dashB (a :: b :: r) = ((a == 45) && (b == 45)) := by
  have ht : okTail r = true := by
    match r with
    | [] => rfl
    | c :: _ => exact decide_eq_true (hend c rfl)
  simp [dashB, ht]
end Go.Proofs.Qxb6628005a.Plain
