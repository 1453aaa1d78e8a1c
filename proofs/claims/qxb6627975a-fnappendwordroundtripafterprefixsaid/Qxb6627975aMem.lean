/-
  SEAT b6627975a: THE WALKS OF zzb1CloneBytes (function 6) AND OF appendLength (11), in its first three cases (lengths below 2^21).
-/
import Derived.Test.Qxb6627975aWalks
import Derived.Laws.CopyOwn
import Derived.Lib.AppendStr
namespace Go.Proofs.Qxb6627975a.Walks
open Go.RowKit

theorem info5 : (Try.prog.info? 5).map (fun i => (i.zero, i.size, i.bytes)) = some (some (.int .u8 0), 1, 1) := by kernel_rfl

/-- Numbers as the cells of a []byte. -/
def cells (zs : List Int) : List Value := zs.map (Value.int .u8)

theorem clone_nil (w : World) : Calls Try.prog 6 #[.slice none 0 0] w fun e w' => e = .returned (.slice none 0 0) ∧ w' = w := by
  have q22 : ∀ (w : World) (a : Option Addr) (n c n' c' : Nat), (binOp .eql 22 (.slice a n c) (.slice none n' c')).run Try.prog w = .ok (.bool a.isNone) w := fun w a n c n' c' => Lib.run_eql_slice_nil w _ _ a n c n' c' Try.underlying22
  go_enter Try.func6, Try.ntmps6
  go_wp2
  go_ret
  exact ⟨rfl, rfl⟩

theorem clone_some (x : Addr) (n c : Nat) (zs : List Int) (w : World) (hn : zs.length = n) (hb : n ≤ 1048576) (hc : ∀ j, j < n → w.cell? (x.add j) = some (.int .u8 (zs.getD j 0))) :
    Calls Try.prog 6 #[.slice (some x) n c] w fun e w' => e = .returned (.slice (some ⟨w.heap.size, 0, none⟩) n n) ∧ w'.heap[w.heap.size]? = some (.cells (cells zs).toArray 5 (0, 0)) ∧ Below w.heap.size w w' := by
  have q22 : ∀ (w : World) (a : Option Addr) (n c n' c' : Nat), (binOp .eql 22 (.slice a n c) (.slice none n' c')).run Try.prog w = .ok (.bool a.isNone) w := fun w a n c n' c' => Lib.run_eql_slice_nil w _ _ a n c n' c' Try.underlying22
  obtain ⟨i0, hi, hz0, hz1, hz2⟩ := info_parts info5
  obtain ⟨Z, hZ⟩ : ∃ Z, Z = madeCells (Value.int .u8 0).cells n := ⟨_, rfl⟩
  have hZs : Z.size = n := by rw [hZ]; exact size_madeCells _ _
  have hmk : (Instr.makeSlice 22 (.int .i64 (n : Int)) (.int .i64 (n : Int))).run Try.prog w = .ok (.slice (some ⟨w.heap.size, 0, none⟩) n n) (w.alloc (.cells Z 5)) := by
    have := run_make (P := Try.prog) w 22 5 i0 (.int .u8 0) Try.underlying22 hi hz0 .i64 .i64 (n : Int) (n : Int) (by omega) (Int.le_refl _) (by rw [hz2]; omega) (by omega)
    simpa [hz1, hZ] using this
  have hnew : (w.alloc (.cells Z 5)).heap[w.heap.size]? = some (.cells Z 5 (0, 0)) := heap_alloc_new w _
  have hcp : ∀ ty, (Builtin.copy_ #[22, 22] ty #[.slice (some ⟨w.heap.size, 0, none⟩) n n, .slice (some x) n c]).run Try.prog (w.alloc (.cells Z 5)) = .ok (.int .i64 (n : Int)) ((w.alloc (.cells Z 5)).setRow w.heap.size (cells zs).toArray) := by
    intro ty
    have hs1 : (Try.prog.info? 5).map (·.size) = some 1 := by rw [hi]; simp [hz1]
    have hlen : (cells zs).length = n := by simp [cells, hn]
    have hrow := run_copy_row (P := Try.prog) (w.alloc (.cells Z 5)) 22 22 ty 5 w.heap.size 0 n n x n c Z 5 (cells zs) Try.underlying22 hs1 hnew (by rw [hlen]; exact (Nat.min_self n).symm) ?_ (by rw [hlen, hZs]; omega) (ints_oneCell _ _)
    · have e1 : (Z.toList.take 0 ++ cells zs ++ Z.toList.drop (0 + (cells zs).length)) = cells zs := by
        rw [hlen, List.drop_eq_nil_of_le (by rw [Array.length_toList, hZs]; omega)]
        simp
      rw [e1, hlen] at hrow
      exact hrow
    · intro j v hv
      have hj : j < n := by rw [← hlen]; exact (List.getElem?_eq_some_iff.1 hv).1
      have hold : w.cell? (x.add j) = some v := by
        rw [hc j hj, ← hv]
        simp [cells, List.getD, show j < zs.length by omega]
      exact World.grownBy.cell (World.grownBy_alloc w _ none) hold (by simp)
  clear hc hn hZ hi hz0 hz1 hz2 hnew
  have hend : ((w.alloc (.cells Z 5)).setRow w.heap.size (cells zs).toArray).heap[w.heap.size]? = some (.cells (cells zs).toArray 5 (0, 0)) := setRow_heap _ _ Z _ 5 _ (heap_alloc_new w _)
  have hbel : Below w.heap.size w ((w.alloc (.cells Z 5)).setRow w.heap.size (cells zs).toArray) := below_setRow ((Below.refl _ _).alloc (Nat.le_refl _) _) (Nat.le_refl _) _
  have HE := (show Hid (((w.alloc (.cells Z 5)).setRow w.heap.size (cells zs).toArray).heap[w.heap.size]? = some (.cells (cells zs).toArray 5 (0, 0))) from hend)
  clear hend
  go_enter Try.func6, Try.ntmps6
  go_wp2_with fail
  go_ret
  exact ⟨rfl, HE.out, hbel⟩

/-! ### appendLength (function 11) -/
/-- Of the other blocks those that have at most n cells stand as they stood. -/
def Keeps (n : Nat) (v : Value) (w w' : World) : Prop :=
  ∀ k cur t f, w.heap[k]? = some (.cells cur t f) → cur.size ≤ n → v.ownBlock ≠ some k → w'.heap[k]? = w.heap[k]?
/-- What an append onto v (n elements) leaves: SOME value that owns xs'; nothing below 'base' has turned; nor has any other block of at most n cells. -/
def Onto (base n : Nat) (v : Value) (w : World) (n' : Nat) (xs' : List Value) (v' : Value) (w' : World) : Prop :=
  w'.ownsRow base 5 1 v' n' xs' ∧ Below base w w' ∧ Keeps n v w w'

theorem onto_mk {base n n' : Nat} {v v' : Value} {w w' : World} {xs xs' : List Value} {o : Obj} (hown : w.ownsRow base 5 1 v n xs) (hbase : base ≤ w.heap.size)
    (hown' : w'.ownsRow base 5 1 v' n' xs') (hg : (w.alloc o).grownBy w' v.ownBlock) : Onto base n v w n' xs' v' w' := by
  refine ⟨hown', ((Below.refl _ _).alloc hbase o).grown hg (by simp; omega) (fun k h => (hown.lt k h).1), ?_⟩
  intro k cur t f hk _ hne
  have hlt : k < w.heap.size := (Array.getElem?_eq_some_iff.1 hk).1
  exact (hg.block k (by simp; omega) (fun h => hne h.symm)).trans (Below.heap_alloc w o k hlt)

theorem new_cells (w : World) (ys : List Int) : ∀ j u, (cells ys)[j]? = some u → (w.alloc (.cells (cells ys).toArray 5)).cell? ((⟨w.heap.size, 0, none⟩ : Addr).add j) = some u := by
  intro j u hu
  rw [Addr.add_lit, cell_of_row _ w.heap.size _ (cells ys).toArray 5 (0, 0) (heap_alloc_new w _)]
  simpa using hu

set_option maxRecDepth 1000 in
theorem len1 (a : Option Addr) (n c base : Nat) (q : Int) (xs : List Value) (w : World) (hown : w.ownsRow base 5 1 (.slice a n c) n xs) (hbase : base ≤ w.heap.size) (hn : n ≤ 4194304) (hm1 : 0 ≤ q) (hm : q < 128) :
    Calls Try.prog 11 #[.slice a n c, .int .i64 q] w fun e w' => ∃ v', e = .returned v' ∧ Onto base n (.slice a n c) w (n + 1) (xs ++ cells [q]) v' w' := by
  obtain ⟨i0, hi, hz0, hz1, hz2⟩ := info_parts info5
  have HO : Hid (w.ownsRow base 5 1 (.slice a n c) n xs) := hown
  clear hown
  go_enter Try.func11, Try.ntmps11
  go_wp2_with (at_builtin; refine wpList_append_own _ rfl _ _ 22 rfl base 5 i0 (.int .u8 0) 1 1 Try.underlying22 hi hz0 hz1 hz2 rfl (by decide) _ _ _ rfl (HO.out.alloc _) ⟨w.heap.size, 0, none⟩ 1 1 (cells [q]) rfl rfl ?c1 ?c2 ?c3 ?c4 ?c5 ?_)
  case c1 => exact new_cells w _
  case c2 => exact ints_oneCell _ _
  case c3 => unfold maxLen; omega
  case c4 => omega
  case c5 => simp; omega
  · intro v' w' hown' hgrow _
    have R := onto_mk HO.out hbase hown' hgrow
    clear hown' hgrow
    have HR : Hid (Onto base n (.slice a n c) w (n + 1) (xs ++ cells [q]) v' w') := R
    clear R
    go_wp2
    go_ret
    exact ⟨v', rfl, HR.out⟩

set_option maxRecDepth 1000 in
theorem len2 (a : Option Addr) (n c base : Nat) (q : Int) (xs : List Value) (w : World) (hown : w.ownsRow base 5 1 (.slice a n c) n xs) (hbase : base ≤ w.heap.size) (hn : n ≤ 4194304) (hm1 : 128 ≤ q) (hm : q < 16384) :
    Calls Try.prog 11 #[.slice a n c, .int .i64 q] w fun e w' => ∃ v', e = .returned v' ∧ Onto base n (.slice a n c) w (n + 2) (xs ++ cells [128 + q / 256, q % 256]) v' w' := by
  obtain ⟨i0, hi, hz0, hz1, hz2⟩ := info_parts info5
  have HO : Hid (w.ownsRow base 5 1 (.slice a n c) n xs) := hown
  clear hown
  go_enter Try.func11, Try.ntmps11
  go_wp2_with (at_builtin; refine wpList_append_own _ rfl _ _ 22 rfl base 5 i0 (.int .u8 0) 1 1 Try.underlying22 hi hz0 hz1 hz2 rfl (by decide) _ _ _ rfl (HO.out.alloc _) ⟨w.heap.size, 0, none⟩ 2 2 (cells [128 + q / 256, q % 256]) rfl rfl ?c1 ?c2 ?c3 ?c4 ?c5 ?_)
  case c1 => exact new_cells w _
  case c2 => exact ints_oneCell _ _
  case c3 => unfold maxLen; omega
  case c4 => omega
  case c5 => simp; omega
  · intro v' w' hown' hgrow _
    have R := onto_mk HO.out hbase hown' hgrow
    clear hown' hgrow
    have HR : Hid (Onto base n (.slice a n c) w (n + 2) (xs ++ cells [128 + q / 256, q % 256]) v' w') := R
    clear R
    go_wp2
    go_ret
    exact ⟨v', rfl, HR.out⟩

set_option maxRecDepth 1000 in
theorem len3 (a : Option Addr) (n c base : Nat) (q : Int) (xs : List Value) (w : World) (hown : w.ownsRow base 5 1 (.slice a n c) n xs) (hbase : base ≤ w.heap.size) (hn : n ≤ 4194304) (hm1 : 16384 ≤ q) (hm : q < 2097152) :
    Calls Try.prog 11 #[.slice a n c, .int .i64 q] w fun e w' => ∃ v', e = .returned v' ∧ Onto base n (.slice a n c) w (n + 3) (xs ++ cells [192 + q / 65536, q / 256 % 256, q % 256]) v' w' := by
  obtain ⟨i0, hi, hz0, hz1, hz2⟩ := info_parts info5
  have HO : Hid (w.ownsRow base 5 1 (.slice a n c) n xs) := hown
  clear hown
  go_enter Try.func11, Try.ntmps11
  go_wp2_with (at_builtin; refine wpList_append_own _ rfl _ _ 22 rfl base 5 i0 (.int .u8 0) 1 1 Try.underlying22 hi hz0 hz1 hz2 rfl (by decide) _ _ _ rfl (HO.out.alloc _) ⟨w.heap.size, 0, none⟩ 3 3 (cells [192 + q / 65536, q / 256 % 256, q % 256]) rfl rfl ?c1 ?c2 ?c3 ?c4 ?c5 ?_)
  case c1 => exact new_cells w _
  case c2 => exact ints_oneCell _ _
  case c3 => unfold maxLen; omega
  case c4 => omega
  case c5 => simp; omega
  · intro v' w' hown' hgrow _
    have R := onto_mk HO.out hbase hown' hgrow
    clear hown' hgrow
    have HR : Hid (Onto base n (.slice a n c) w (n + 3) (xs ++ cells [192 + q / 65536, q / 256 % 256, q % 256]) v' w') := R
    clear R
    go_wp2
    go_ret
    exact ⟨v', rfl, HR.out⟩

end Go.Proofs.Qxb6627975a.Walks
