/-
  SEAT b6627975a: THE WALK OF AppendWord (function 7) onto a slice that the call owns; 'head': the shortest prefix of a length below 2^21.
-/
import Derived.Test.Qxb6627975aMem
namespace Go.Proofs.Qxb6627975a.Walks
open Go.RowKit

theorem hid {p : Prop} (h : p) : Hid p := h

/-- The shortest prefix for a length below 2^21. -/
def head (q : Int) : List Int :=
  if q < 128 then [q] else if q < 16384 then [128 + q / 256, q % 256] else [192 + q / 65536, q / 256 % 256, q % 256]
theorem head_pos (q : Int) : 1 ≤ (head q).length := by unfold head; split <;> (try split) <;> simp
theorem head_le (q : Int) : (head q).length ≤ 3 := by unfold head; split <;> (try split) <;> simp

theorem len_any (a : Option Addr) (n c base : Nat) (q : Int) (xs : List Value) (w : World) (hown : w.ownsRow base 5 1 (.slice a n c) n xs) (hbase : base ≤ w.heap.size) (hn : n ≤ 4194304) (h0 : 0 ≤ q) (hq : q < 2097152) :
    Calls Try.prog 11 #[.slice a n c, .int .i64 q] w fun e w' => ∃ v', e = .returned v' ∧ Onto base n (.slice a n c) w (n + (head q).length) (xs ++ cells (head q)) v' w' := by
  unfold head
  by_cases h1 : q < 128
  · simp only [if_pos h1]
    exact len1 a n c base q xs w hown hbase hn h0 h1
  · by_cases h2 : q < 16384
    · simp only [if_neg h1, if_pos h2]
      exact len2 a n c base q xs w hown hbase hn (by omega) h2
    · simp only [if_neg h1, if_neg h2]
      exact len3 a n c base q xs w hown hbase hn (by omega) hq

/-- A value that owns some elements begins at the head of a row. -/
theorem own_shape {w : World} {base n : Nat} {v : Value} {xs : List Value} (h : w.ownsRow base 5 1 v n xs) (hn : 1 ≤ n) :
    ∃ g c cur, v = .slice (some ⟨g, 0, none⟩) n c ∧ base ≤ g ∧ w.heap[g]? = some (.cells cur 5 (0, 0)) ∧ n ≤ c ∧ cur.size = c := by
  rcases h.2 with ⟨_, h0⟩ | ⟨g, c, cur, hv, hb, hg, hc, _, hs, _⟩
  · omega
  · exact ⟨g, c, cur, hv, hb, hg, hc, by simpa using hs⟩

theorem onto_trans {base n n1 n2 : Nat} {v v1 v2 : Value} {w w1 w2 : World} {xs1 xs2 : List Value} (hbase : base ≤ w.heap.size) (h : Onto base n v w n1 xs1 v1 w1) (hn : n < n1)
    (hown : w2.ownsRow base 5 1 v2 n2 xs2) (hg : w1.grownBy w2 v1.ownBlock) : Onto base n v w n2 xs2 v2 w2 := by
  obtain ⟨ho, hb, hk⟩ := h
  have hsz := hb.size
  refine ⟨hown, hb.grown hg (by omega) (fun k h => (ho.lt k h).1), ?_⟩
  intro k cur t f hkk hcur hne
  have hlt : k < w.heap.size := (Array.getElem?_eq_some_iff.1 hkk).1
  have h1 := hk k cur t f hkk hcur hne
  refine (hg.block k (by omega) ?_).trans h1
  intro he
  obtain ⟨g, c, cur', hv, _, hgg, hc, hs⟩ := own_shape ho (by omega)
  subst hv
  simp only [Value.ownBlock, Option.some.injEq] at he
  subst he
  rw [h1, hkk] at hgg
  simp only [Option.some.injEq, Obj.cells.injEq] at hgg
  obtain ⟨rfl, _, _⟩ := hgg
  omega

/-- AppendWord, onto a value that the call owns (nil too). -/
theorem word (a : Option Addr) (n c base : Nat) (s : ByteArray) (xs : List Value) (w : World) (hown : w.ownsRow base 5 1 (.slice a n c) n xs) (hbase : base ≤ w.heap.size) (hn : n ≤ 4194304) (hs : s.size < 2097152) :
    Calls Try.prog 7 #[.slice a n c, .string s] w fun e w' => ∃ g c', e = .returned (.slice (some ⟨g, 0, none⟩) (n + (head s.size).length + s.size) c') ∧
      Onto base n (.slice a n c) w (n + (head s.size).length + s.size) (xs ++ cells (head s.size) ++ Lib.strCells s) (.slice (some ⟨g, 0, none⟩) (n + (head s.size).length + s.size) c') w' := by
  obtain ⟨i0, hi, hz0, hz1, hz2⟩ := info_parts info5
  have hlen := len_any a n c base (s.size : Int) xs w hown hbase hn (by omega) (by omega)
  have hp := head_pos (s.size : Int)
  have hl := head_le (s.size : Int)
  obtain ⟨m1, hm1⟩ : ∃ m1, m1 = n + (head (s.size : Int)).length := ⟨_, rfl⟩
  obtain ⟨X1, hX1⟩ : ∃ X1, X1 = xs ++ cells (head (s.size : Int)) := ⟨_, rfl⟩
  rw [← hm1, ← hX1] at hlen ⊢
  have HL := hid hlen
  have HM : Hid (m1 = n + (head (s.size : Int)).length) := hm1
  clear hlen hown hX1 hm1 hp hl
  have hlt : n < m1 ∧ m1 ≤ n + 3 := by rw [HM.out]; have := head_pos (s.size : Int); have := head_le (s.size : Int); omega
  obtain ⟨hlt1, hlt2⟩ := hlt
  go_enter Try.func7, Try.ntmps7
  go_wp2_with fail
  refine HL.out.mono ?_
  rintro e w1 ⟨v1, rfl, h1⟩
  have H1 := hid h1
  clear h1 HL
  have hz : w.heap.size ≤ w1.heap.size := H1.out.2.1.size
  go_wp2_with (at_builtin; refine Lib.wpList_append_own_string _ rfl _ _ 22 9 rfl base 5 i0 Try.underlying22 Try.underlying9 hi hz0 hz1 hz2 _ m1 X1 rfl H1.out.1 s rfl ?c1 ?c2 ?c3 ?_)
  case c1 => unfold maxLen; omega
  case c2 => omega
  case c3 => omega
  · intro v2 w2 hown2 hgrow2 _
    have R := onto_trans hbase H1.out hlt1 hown2 hgrow2
    obtain ⟨g, c', _, rfl, _⟩ := own_shape hown2 (by omega)
    clear hown2 hgrow2
    have HR := hid R
    clear R
    go_wp2
    go_ret
    exact ⟨g, c', rfl, HR.out⟩
end Go.Proofs.Qxb6627975a.Walks
