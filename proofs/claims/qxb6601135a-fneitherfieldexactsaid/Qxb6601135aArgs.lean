/-
  Slices that came in: what the row's reading tells of their cells.
-/
import Derived.Test.Qxb6601135aEMem
import Derived.SliceStrings
import Derived.Deep.Grids
namespace Go.Proofs.Qxb6601135a
open Go.ChangeShapes Go.WideShapes Go.ChangeAt Go.RowKit

theorem cells_arg {W : World} {a : Addr} {xs : List Value} (h : ∀ i u, xs[i]? = some u → W.cell? (a.add i) = some u) : CellsIn W 0 W.heap.size (some a) xs := by
  intro j u hj
  have h0 : ∃ u0, xs[0]? = some u0 := by
    cases xs with
    | nil => simp at hj
    | cons v t => exact ⟨v, rfl⟩
  obtain ⟨u0, hu0⟩ := h0
  obtain ⟨g, o, spot⟩ := a
  have hspot : spot = none := by simpa [Addr.add] using World.cell?_spot (h 0 u0 hu0)
  subst hspot
  have hc := h j u hj
  rw [add_plain] at hc
  exact ⟨g, o, rfl, Nat.zero_le _, World.block_lt_of_cell? _ _ hc, hc⟩
theorem strs_arg {W : World} {a : Addr} (ss : List ByteArray) (len : Nat) (h : ∀ i, i < ss.length → W.cell? (a.add i) = some (.string (ss.getD i ByteArray.empty))) : CellsIn W 0 W.heap.size (some a) (strV (ss.take len)) := by
  apply cells_arg
  intro i u hu
  unfold strV at hu
  rw [List.getElem?_map, List.getElem?_take] at hu
  split at hu
  · cases hs : ss[i]? with
    | none => rw [hs] at hu; simp at hu
    | some x =>
      rw [hs] at hu
      simp at hu
      subst hu
      have hl := (List.getElem?_eq_some_iff.1 hs).1
      have := h i hl
      rw [List.getD_eq_getElem?_getD, hs] at this
      exact this
  · simp at hu
theorem bools_arg {W : World} {a : Addr} (B : Nat → Bool) (len cap : Nat) (hl : len ≤ cap) (h : ∀ i, i < cap → W.cell? (a.add i) = some (.bool (B i))) : CellsIn W 0 W.heap.size (some a) (blV ((List.range len).map B)) := by
  apply cells_arg
  intro i u hu
  unfold blV at hu
  rw [List.getElem?_map, List.getElem?_map] at hu
  by_cases hi : i < len
  · rw [List.getElem?_range hi] at hu
    simp at hu
    subst hu
    exact h i (by omega)
  · rw [List.getElem?_eq_none (by simp; omega)] at hu
    simp at hu
theorem words_arg {W : World} {a : Addr} (zs : List Int) (len : Nat) (h : ∀ i, i < zs.length → W.cell? (a.add i) = some (.int .u64 (zs.getD i 0))) (hw : ∀ n ∈ zs, (Lit.int .u64 n).wf = true) : CellsIn W 0 W.heap.size (some a) (wdV ((zs.take len).map Int.toNat)) := by
  apply cells_arg
  intro i u hu
  unfold wdV at hu
  rw [List.getElem?_map, List.getElem?_map, List.getElem?_take] at hu
  split at hu
  · cases hs : zs[i]? with
    | none => rw [hs] at hu; simp at hu
    | some x =>
      rw [hs] at hu
      simp only [Option.map_some, Option.some.injEq] at hu
      have hb := bounds_u64 (hw x (List.mem_of_getElem? hs))
      rw [Int.toNat_of_nonneg hb.1] at hu
      subst hu
      have hl := (List.getElem?_eq_some_iff.1 hs).1
      have := h i hl
      rw [List.getD_eq_getElem?_getD, hs] at this
      exact this
  · simp at hu
theorem words_lt (zs : List Int) (len : Nat) (hw : ∀ n ∈ zs, (Lit.int .u64 n).wf = true) : ∀ x ∈ (zs.take len).map Int.toNat, x < 18446744073709551616 := by
  intro x hx
  obtain ⟨z, hz, rfl⟩ := List.mem_map.1 hx
  have := bounds_u64 (hw z (List.mem_of_mem_take hz))
  omega
end Go.Proofs.Qxb6601135a
