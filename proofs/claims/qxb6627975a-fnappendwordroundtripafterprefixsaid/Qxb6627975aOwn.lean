/-
  SEAT b6627975a: ROWS THAT THE CALL OWNS: what stays as it was behind a clone and behind an append; the contracts of the clone (function 6), of the least header (10) and of AppendWord (7) as the laws take them.
-/
import Derived.Test.Qxb6627975aReadAny
import Derived.WalkSmall
namespace Go.Proofs.Qxb6627975a.Walks
open Go.RowKit

/-- What is owned stays owned while nothing below the heap's size turns. -/
theorem own_below {w w' : World} {base n : Nat} {v : Value} {xs : List Value} (h : w.ownsRow base 5 1 v n xs) (hb : Below w.heap.size w w') : w'.ownsRow base 5 1 v n xs := by
  obtain ⟨h1, h2⟩ := h
  refine ⟨h1, ?_⟩
  rcases h2 with h2 | ⟨g, cap, cur, hv, hg, hh, r⟩
  · exact .inl h2
  · exact .inr ⟨g, cap, cur, hv, hg, by rw [hb.block g (Array.getElem?_eq_some_iff.1 hh).1]; exact hh, r⟩

theorem own_drewN {w : World} {base n : Nat} {v : Value} {xs : List Value} (h : w.ownsRow base 5 1 v n xs) (m : Nat) : (w.drewN m).ownsRow base 5 1 v n xs := h

/-- A row without spare room stands as it stood behind an append onto another row of as many elements or more. -/
theorem own_onto {w w' : World} {base bk n n1 n' : Nat} {k : Option Addr} {v v' : Value} {xs xs' : List Value} (h : w.ownsRow bk 5 1 (.slice k n n) n xs) (ho : Onto base n1 v w n' xs' v' w') (hn : n ≤ n1)
    (hne : ∀ g, (Value.slice k n n).ownBlock = some g → v.ownBlock ≠ some g) : w'.ownsRow bk 5 1 (.slice k n n) n xs := by
  obtain ⟨h1, h2⟩ := h
  refine ⟨h1, ?_⟩
  rcases h2 with h2 | ⟨g, cap, cur, hv, hg, hh, r1, r2, hs, r3⟩
  · exact .inl h2
  · refine .inr ⟨g, cap, cur, hv, hg, ?_, r1, r2, hs, r3⟩
    have hcap : cap = n := by simp only [Value.slice.injEq] at hv; exact hv.2.2.symm
    rw [ho.2.2 g cur 5 (0, 0) hh (by omega) (hne g (by rw [hv]; rfl))]
    exact hh

/-- A longer row lies in another block than a row of n cells. -/
theorem own_apart {w : World} {base bk n m : Nat} {k : Option Addr} {v : Value} {xs ys : List Value} (h : w.ownsRow bk 5 1 (.slice k n n) n xs) (hv : w.ownsRow base 5 1 v m ys) (hm : n < m) :
    ∀ g, (Value.slice k n n).ownBlock = some g → v.ownBlock ≠ some g := by
  intro g hg he
  obtain ⟨g', c, cur, rfl, _, hh, hc, hs⟩ := own_shape hv (by omega)
  simp only [Value.ownBlock, Option.some.injEq] at he
  subst he
  rcases h.2 with ⟨h2, _⟩ | ⟨g2, cap, cur2, hv2, _, hh2, _, _, hs2, _⟩
  · rw [h2] at hg; simp [Value.ownBlock] at hg
  · have hcap : cap = n := by simp only [Value.slice.injEq] at hv2; exact hv2.2.2.symm
    rw [hv2] at hg
    simp only [Value.ownBlock, Option.some.injEq] at hg
    subst hg
    rw [hh] at hh2
    simp only [Option.some.injEq, Obj.cells.injEq] at hh2
    obtain ⟨rfl, _, _⟩ := hh2
    omega

/-- A row that was made later lies in another block. -/
theorem own_later {w w' : World} {base n m : Nat} {v v' : Value} {xs ys : List Value} (h : w.ownsRow base 5 1 v n xs) (h' : w'.ownsRow w.heap.size 5 1 v' m ys) :
    ∀ g, v'.ownBlock = some g → v.ownBlock ≠ some g := by
  intro g hg he
  have h1 := (h.lt g he).2
  have h2 := (h'.lt g hg).1
  omega

/-- The clone of a slice of bytes, nil or not. -/
theorem clone_any (a : Option Addr) (n c : Nat) (zs : List Int) (w : World) (hn : zs.length = n) (hb : n ≤ 1048576)
    (hsrc : (a = none ∧ n = 0 ∧ c = 0) ∨ ∃ x, a = some x ∧ ∀ j, j < n → w.cell? (x.add j) = some (.int .u8 (zs.getD j 0))) :
    Calls Try.prog 6 #[.slice a n c] w fun e w' => ∃ a', e = .returned (.slice a' n n) ∧ w'.ownsRow w.heap.size 5 1 (.slice a' n n) n (cells zs) ∧ Below w.heap.size w w' := by
  rcases hsrc with ⟨rfl, rfl, rfl⟩ | ⟨x, rfl, hc⟩
  · refine (clone_nil w).mono ?_
    rintro e w' ⟨rfl, rfl⟩
    have hz : zs = [] := List.eq_nil_of_length_eq_zero hn
    subst hz
    exact ⟨none, rfl, World.ownsRow_nil _ _ _ _, Below.refl _ _⟩
  · refine (clone_some x n c zs w hn hb hc).mono ?_
    rintro e w' ⟨rfl, hrow, hbel⟩
    refine ⟨_, rfl, ⟨by simp [cells, hn], .inr ⟨w.heap.size, n, _, rfl, Nat.le_refl _, hrow, Nat.le_refl _, by unfold maxLen; omega, by simp [cells, hn], ?_⟩⟩, hbel⟩
    rw [List.take_of_length_le (by simp [cells, hn])]

/-- What a clone reads of a row that is owned. -/
theorem own_src {w : World} {base n : Nat} {a : Option Addr} {zs : List Int} (h : w.ownsRow base 5 1 (.slice a n n) n (cells zs)) :
    (a = none ∧ n = 0 ∧ n = 0) ∨ ∃ x, a = some x ∧ ∀ j, j < n → w.cell? (x.add j) = some (.int .u8 (zs.getD j 0)) := by
  rcases h.2 with ⟨hv, h0⟩ | ⟨g, cap, cur, hv, _⟩
  · simp only [Value.slice.injEq] at hv
    exact .inl ⟨hv.1, h0, h0⟩
  · simp only [Value.slice.injEq] at hv
    obtain ⟨rfl, _, rfl⟩ := hv
    have hl : zs.length = n := by simpa [cells] using h.1
    refine .inr ⟨_, rfl, fun j hj => ?_⟩
    rw [Addr.add_lit, Nat.zero_add, h.cellAt j (by omega)]
    simp [cells, List.getD, show j < zs.length by omega]

theorem least_any (q : Int) (h0 : 0 ≤ q) (hq : q < 2097152) (w : World) :
    Calls Try.prog 10 #[.int .i64 q] w fun e w' => e = .returned (.int .i64 ((head q).length : Int)) ∧ w' = w := by
  unfold head
  by_cases h1 : q < 128
  · simp only [if_pos h1]
    exact least1 q h0 h1 w
  · by_cases h2 : q < 16384
    · simp only [if_neg h1, if_pos h2]
      exact least2 q (by omega) h2 w
    · simp only [if_neg h1, if_neg h2]
      exact least3 q (by omega) hq w

theorem head_mono (p q : Int) (h : p ≤ q) : (head p).length ≤ (head q).length := by
  unfold head
  by_cases h1 : q < 128
  · rw [if_pos h1, if_pos (by omega)]; simp
  · rw [if_neg h1]
    by_cases h2 : q < 16384
    · rw [if_pos h2]
      split
      · simp
      · rw [if_pos (by omega)]; simp
    · rw [if_neg h2]
      split
      · simp
      · split <;> simp

/-- Each cell of a word as it is written holds a byte. -/
theorem word_cell (s : ByteArray) (k : Nat) (hk : k < (head s.size).length + s.size) : ∃ u : Int, (cells (head s.size) ++ Lib.strCells s)[k]? = some (.int .u8 u) := by
  by_cases h : k < (head (s.size : Int)).length
  · refine ⟨(head (s.size : Int))[k], ?_⟩
    rw [List.getElem?_append_left (by simpa [cells] using h)]
    simp [cells, h]
  · have hl : (cells (head (s.size : Int))).length = (head (s.size : Int)).length := by simp [cells]
    have hlt : k - (head (s.size : Int)).length < s.data.toList.length := by
      have e : s.data.toList.length = s.size := by rw [Array.length_toList]; rfl
      omega
    obtain ⟨b, hb⟩ : ∃ b, s.data.toList[k - (head (s.size : Int)).length]? = some b := ⟨_, List.getElem?_eq_getElem hlt⟩
    refine ⟨(b.toNat : Int), ?_⟩
    rw [List.getElem?_append_right (by omega), hl]
    simp only [Lib.strCells, List.getElem?_map, hb, Option.map_some]
/-- AppendWord, the prefix's length under a name of its own. -/
theorem word_at (a : Option Addr) (n c base H : Nat) (s : ByteArray) (xs : List Value) (w : World) (hH : H = (head s.size).length) (hown : w.ownsRow base 5 1 (.slice a n c) n xs) (hbase : base ≤ w.heap.size) (hn : n ≤ 4194304) (hs : s.size < 2097152) :
    Calls Try.prog 7 #[.slice a n c, .string s] w fun e w' => ∃ g c', e = .returned (.slice (some ⟨g, 0, none⟩) (n + (H + s.size)) c') ∧
      Onto base n (.slice a n c) w (n + (H + s.size)) (xs ++ (cells (head s.size) ++ Lib.strCells s)) (.slice (some ⟨g, 0, none⟩) (n + (H + s.size)) c') w' := by
  have h := word a n c base s xs w hown hbase hn hs
  have e : n + (head (s.size : Int)).length + s.size = n + (H + s.size) := by rw [hH, Nat.add_assoc]
  rw [e, List.append_assoc] at h
  exact h

theorem word_nil (base H : Nat) (s : ByteArray) (w : World) (hH : H = (head s.size).length) (hbase : base = w.heap.size) (hs : s.size < 2097152) :
    Calls Try.prog 7 #[.slice none 0 0, .string s] w fun e w' => ∃ g c', e = .returned (.slice (some ⟨g, 0, none⟩) (H + s.size) c') ∧
      w'.ownsRow base 5 1 (.slice (some ⟨g, 0, none⟩) (H + s.size) c') (H + s.size) (cells (head s.size) ++ Lib.strCells s) ∧ Below w.heap.size w w' := by
  subst hbase
  have h := word_at none 0 0 w.heap.size H s [] w hH (World.ownsRow_nil _ _ _ _) (Nat.le_refl _) (by omega) hs
  simp only [Nat.zero_add, List.nil_append] at h
  refine h.mono ?_
  rintro e w' ⟨g, c', he, h1, h2, _⟩
  exact ⟨g, c', he, h1, h2⟩
end Go.Proofs.Qxb6627975a.Walks
