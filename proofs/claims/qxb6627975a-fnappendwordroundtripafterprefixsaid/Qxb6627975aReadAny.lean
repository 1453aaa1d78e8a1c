/-
  SEAT b6627975a: THE CONTRACT OF zzb1ReadWord (function 8): it reads back the word that stands at i, and the position behind it.
-/
import Derived.Test.Qxb6627975aRead
namespace Go.Proofs.Qxb6627975a.Walks
open Go.RowKit

/-- 'string(p[a:b])' where the cells are the string's bytes; of no byte whatever the address. -/
theorem conv (s : ByteArray) (ad : Addr) (L cc : Nat) (w : World) (hL : L = s.size) (hc : ∀ j, j < s.size → w.cell? (ad.add j) = (Lib.strCells s)[j]?) :
    (convert 22 9 (.slice (some ad) L cc)).run Try.prog w = .ok (.string s) w := by
  have e : L = s.data.toList.length := by rw [hL, Array.length_toList]; rfl
  rw [e]
  have h := run_convert_bytes_back (P := Try.prog) w 22 9 5 ad cc s.data.toList Try.underlying22 Try.underlying5 Try.underlying9 ?_
  · rw [h]
  · intro j hj
    have hj' : j < s.size := by rw [← hL, e]; exact hj
    rw [hc j hj']
    simp only [Lib.strCells, List.getElem?_map, List.getElem?_eq_getElem hj, Option.map_some]

theorem at_mid {α : Type} (P M R : List α) (i k : Nat) (hP : P.length = i) (hk : k < M.length) : (P ++ M ++ R)[i + k]? = M[k]? := by
  subst hP
  rw [List.append_assoc, List.getElem?_append_right (by omega), List.getElem?_append_left (by omega)]
  congr 1
  omega

theorem read_any (g N c i : Nat) (s : ByteArray) (P R : List Value) (w : World) (hN : N ≤ 4194304) (hc : N ≤ c) (hs : s.size < 2097152) (hP : P.length = i)
    (hlen : (P ++ cells (head s.size) ++ Lib.strCells s ++ R).length = N) (hX : ∀ j, j < N → w.cell? ⟨g, j, none⟩ = (P ++ cells (head s.size) ++ Lib.strCells s ++ R)[j]?) :
    Calls Try.prog 8 #[.slice (some ⟨g, 0, none⟩) N c, .int .i64 (i : Int)] w fun e w' => e = .returned (.tuple #[.string s, .int .i64 ((i : Int) + (head s.size).length + (s.size : Int)), .bool true]) ∧ w' = w := by
  have hcl : (cells (head (s.size : Int))).length = (head (s.size : Int)).length := by simp [cells]
  have hN' : i + (head (s.size : Int)).length + s.size + R.length = N := by
    rw [← hlen]; simp only [List.length_append, hP, hcl, Lib.strCells_length]
  -- the header's cells
  have hH : ∀ k, k < (head (s.size : Int)).length → w.cell? ⟨g, i + k, none⟩ = (cells (head (s.size : Int)))[k]? := by
    intro k hk
    rw [hX (i + k) (by omega), show P ++ cells (head (s.size : Int)) ++ Lib.strCells s ++ R = P ++ cells (head (s.size : Int)) ++ (Lib.strCells s ++ R) from List.append_assoc _ _ _]
    exact at_mid _ _ _ _ _ hP (by omega)
  -- the bytes' cells
  have hB : ∀ k, k < s.size → w.cell? ⟨g, i + (head (s.size : Int)).length + k, none⟩ = (Lib.strCells s)[k]? := by
    intro k hk
    rw [hX _ (by omega)]
    exact at_mid _ _ _ _ _ (by rw [List.length_append, hP, hcl]) (by rw [Lib.strCells_length]; exact hk)
  clear hX hlen
  obtain ⟨q, hq⟩ : ∃ q : Int, q = (s.size : Int) := ⟨_, rfl⟩
  rw [← hq] at hN' hH hB ⊢
  by_cases h1 : q < 128
  · have hh : head q = [q] := by simp [head, h1]
    rw [hh] at hN' hH hB ⊢
    simp only [List.length_cons, List.length_nil, Nat.zero_add] at hN' hH hB ⊢
    have h0 := hH 0 (by omega)
    simp [cells] at h0
    refine read1 g N c i s q w hN hc (by omega) h1 (by omega) h0 (fun cc => conv s _ _ cc w (by omega) (fun j hj => by rw [Addr.add_lit]; exact hB j hj)) (fun hci cc => conv s _ _ cc w (by omega) (fun j hj => by omega))
  · by_cases h2 : q < 16384
    · have hh : head q = [128 + q / 256, q % 256] := by simp [head, h1, h2]
      rw [hh] at hN' hH hB ⊢
      simp only [List.length_cons, List.length_nil, Nat.zero_add, Nat.reduceAdd] at hN' hH hB ⊢
      have e0 := hH 0 (by omega)
      have e1 := hH 1 (by omega)
      simp [cells] at e0 e1
      have hxy : q = q / 256 * 256 + q % 256 := by omega
      have R := read2 g N c i s (q / 256) (q % 256) w hN hc (by omega) (by omega) (by omega) (by omega) (by omega) (by omega) e0 e1 (fun cc => conv s _ _ cc w (by omega) (fun j hj => by rw [Addr.add_lit]; exact hB j hj))
      rw [← hxy] at R
      exact R
    · have hh : head q = [192 + q / 65536, q / 256 % 256, q % 256] := by simp [head, h1, h2]
      rw [hh] at hN' hH hB ⊢
      simp only [List.length_cons, List.length_nil, Nat.zero_add, Nat.reduceAdd] at hN' hH hB ⊢
      have e0 := hH 0 (by omega)
      have e1 := hH 1 (by omega)
      have e2 := hH 2 (by omega)
      simp [cells] at e0 e1 e2
      have hxy : q = (q / 65536 * 256 + q / 256 % 256) * 256 + q % 256 := by omega
      have R := read3 g N c i s (q / 65536) (q / 256 % 256) (q % 256) w hN hc (by omega) (by omega) (by omega) (by omega) (by omega) (by omega) (by omega) (by omega) e0 e1 e2 (fun cc => conv s _ _ cc w (by omega) (fun j hj => by rw [Addr.add_lit]; exact hB j hj))
      rw [← hxy] at R
      exact R
end Go.Proofs.Qxb6627975a.Walks
