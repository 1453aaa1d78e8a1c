/-
  THE PLAIN LAW of seat b6627898a: no Go in sight. 'Dig u s': the natural number u has s + 1 decimal digits.
-/
namespace Go.Proofs.Qxb6627898a.Plain

def Dig (u s : Nat) : Prop := (s = 0 ∨ 10 ^ s ≤ u) ∧ u < 10 ^ (s + 1)

theorem dig_unique {u s t : Nat} (hs : Dig u s) (ht : Dig u t) : s = t := by
  have key : ∀ a b : Nat, Dig u a → Dig u b → ¬ a < b := by
    intro a b ha hb hab
    rcases hb.1 with h | h
    · omega
    · have h1 : 10 ^ (a + 1) ≤ 10 ^ b := Nat.pow_le_pow_right (by omega) hab
      have h2 := ha.2
      omega
  have h1 := key s t hs ht
  have h2 := key t s ht hs
  omega

theorem dig_strip {u t : Nat} (hu : 10 ≤ u) (ht : Dig (u / 10) t) : Dig u (t + 1) := by
  obtain ⟨h1, h2⟩ := ht
  refine ⟨.inr ?_, ?_⟩
  · rcases h1 with h | h
    · subst h; simpa using hu
    · rw [Nat.pow_succ]; omega
  · rw [Nat.pow_succ]; omega

theorem dig_join {a b k s : Nat} (ha : 1 ≤ a) (hb : b < 10 ^ k) (hs : Dig a s) : Dig (a * 10 ^ k + b) (s + k) := by
  obtain ⟨h1, h2⟩ := hs
  have h1' : 10 ^ s ≤ a := by
    rcases h1 with h | h
    · subst h; simpa using ha
    · exact h
  refine ⟨.inr ?_, ?_⟩
  · rw [Nat.pow_add]
    have := Nat.mul_le_mul_right (10 ^ k) h1'
    omega
  · have e : 10 ^ (s + k + 1) = 10 ^ (s + 1) * 10 ^ k := by rw [← Nat.pow_add]; congr 1; omega
    have h3 := Nat.mul_le_mul_right (10 ^ k) (show a + 1 ≤ 10 ^ (s + 1) from h2)
    rw [Nat.add_mul, Nat.one_mul] at h3
    rw [e]; omega

/-- The loop's relation: k rounds have been gone. -/
theorem dig_round {u k : Nat} (hu : 10 ≤ u / 10 ^ k) : 10 ^ (k + 1) ≤ u := by
  have hp : 0 < 10 ^ k := Nat.pow_pos (by omega)
  have := (Nat.le_div_iff_mul_le hp).1 hu
  rw [Nat.pow_succ]; omega

theorem dig_end {u k : Nat} (h : k = 0 ∨ 10 ^ k ≤ u) (hu : u / 10 ^ k < 10) : Dig u k := by
  have hp : 0 < 10 ^ k := Nat.pow_pos (by omega)
  have := (Nat.div_lt_iff_lt_mul hp).1 hu
  exact ⟨h, by rw [Nat.pow_succ]; omega⟩

theorem rounds_le {u k : Nat} (h : k = 0 ∨ 10 ^ k ≤ u) (hu : u < 18446744073709551616) : k ≤ 19 := by
  rcases h with h | h
  · omega
  · by_cases hk : k ≤ 19
    · exact hk
    · have h2 : 10 ^ 20 ≤ 10 ^ k := Nat.pow_le_pow_right (by omega) (by omega)
      have h3 : (10 : Nat) ^ 20 = 100000000000000000000 := by decide
      omega

theorem div_step (u k : Nat) : u / 10 ^ k / 10 = u / 10 ^ (k + 1) := by
  rw [Nat.div_div_eq_div_mul, Nat.pow_succ]

theorem pow_le18 {k : Nat} (h : k ≤ 18) : 10 ^ k ≤ 1000000000000000000 := by
  have h2 : 10 ^ k ≤ 10 ^ 18 := Nat.pow_le_pow_right (by omega) h
  have h3 : (10 : Nat) ^ 18 = 1000000000000000000 := by decide
  omega

end Go.Proofs.Qxb6627898a.Plain
