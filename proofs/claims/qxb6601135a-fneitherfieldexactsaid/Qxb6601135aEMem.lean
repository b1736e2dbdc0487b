/-
  What a slice's cells hold, between two block numbers; lists of strings, bools, words and ints as cells.
-/
import Derived.Test.Qxb6601135aMem
import Derived.Test.Qxb6601135aEPlain
import Derived.Deep.QuietTactic
import Derived.BigQuiet
namespace Go.Proofs.Qxb6601135a
open Go.ChangeShapes Go.WideShapes Go.ChangeAt Go.RowKit

/-- Each element of xs lies behind the slice's address, in a block from lo on, below hi. -/
def CellsIn (w : World) (lo hi : Nat) (a : Option Addr) (xs : List Value) : Prop :=
  ∀ j u, xs[j]? = some u → ∃ g o, a = some ⟨g, o, none⟩ ∧ lo ≤ g ∧ g < hi ∧ w.cell? ⟨g, o + j, none⟩ = some u
theorem CellsIn.nil (w : World) (lo hi : Nat) (a : Option Addr) : CellsIn w lo hi a [] := fun j u h => by simp at h
theorem CellsIn.keep {w w' : World} {lo hi : Nat} {a : Option Addr} {xs : List Value} (h : CellsIn w lo hi a xs) (hk : ∀ k, lo ≤ k → k < hi → w'.heap[k]? = w.heap[k]?) : CellsIn w' lo hi a xs := fun j u hj => by
  obtain ⟨g, o, ha, h1, h2, hc⟩ := h j u hj
  exact ⟨g, o, ha, h1, h2, (World.cell?_of_block (w := w) (a := ⟨g, o + j, none⟩) (hk g h1 h2)).trans hc⟩
theorem CellsIn.below {w w' : World} {lo hi B : Nat} {a : Option Addr} {xs : List Value} (h : CellsIn w lo hi a xs) (hb : Below B w w') (hB : hi ≤ B) : CellsIn w' lo hi a xs :=
  h.keep fun k _ h2 => hb.block k (by omega)
theorem CellsIn.wide {w : World} {lo hi lo' hi' : Nat} {a : Option Addr} {xs : List Value} (h : CellsIn w lo hi a xs) (h1 : lo' ≤ lo) (h2 : hi ≤ hi') : CellsIn w lo' hi' a xs := fun j u hj => by
  obtain ⟨g, o, ha, p1, p2, hc⟩ := h j u hj
  exact ⟨g, o, ha, by omega, by omega, hc⟩
theorem RowV.cellsIn {w : World} {g : Nat} {t : TypeId} {cs : List Value} (h : RowV w g t cs) (n : Nat) : CellsIn w g (g + 1) (some ⟨g, 0, none⟩) (cs.take n) := fun j u hj => by
  rw [List.getElem?_take] at hj
  split at hj
  · exact ⟨g, 0, rfl, Nat.le_refl _, Nat.lt_succ_self _, by rw [Nat.zero_add]; exact h.cell j u hj⟩
  · cases hj
theorem RowV.cellsAll {w : World} {g : Nat} {t : TypeId} {cs : List Value} (h : RowV w g t cs) : CellsIn w g (g + 1) (some ⟨g, 0, none⟩) cs := by
  have := h.cellsIn cs.length; rwa [List.take_length] at this

def strV (l : List ByteArray) : List Value := l.map Value.string
def blV (l : List Bool) : List Value := l.map Value.bool
def wdV (l : List Nat) : List Value := l.map fun (n : Nat) => Value.int .u64 (n : Int)
def inV (l : List Nat) : List Value := l.map fun (n : Nat) => Value.int .i64 (n : Int)
theorem strV_get (l : List ByteArray) (i : Nat) (x : ByteArray) (h : l[i]? = some x) : (strV l)[i]? = some (.string x) := by simp [strV, h]
theorem blV_get (l : List Bool) (i : Nat) (x : Bool) (h : l[i]? = some x) : (blV l)[i]? = some (.bool x) := by simp [blV, h]
theorem wdV_get (l : List Nat) (i : Nat) (x : Nat) (h : l[i]? = some x) : (wdV l)[i]? = some (.int .u64 (x : Int)) := by simp [wdV, h]
theorem inV_get (l : List Nat) (i : Nat) (x : Nat) (h : l[i]? = some x) : (inV l)[i]? = some (.int .i64 (x : Int)) := by simp [inV, h]
theorem strV_len (l : List ByteArray) : (strV l).length = l.length := by simp [strV]
theorem blV_len (l : List Bool) : (blV l).length = l.length := by simp [blV]
theorem wdV_len (l : List Nat) : (wdV l).length = l.length := by simp [wdV]
theorem inV_len (l : List Nat) : (inV l).length = l.length := by simp [inV]
theorem at_some {α : Type} (l : List α) (k : Nat) (h : k < l.length) : ∃ x, l[k]? = some x := ⟨l[k], List.getElem?_eq_getElem h⟩
theorem take_same {α : Type} (X Y : List α) (k : Nat) (x y : α) (h : X.take k = Y.take k) (hx : X[k]? = some x) (hy : Y[k]? = some y) (e : x = y) : X.take (k + 1) = Y.take (k + 1) := by
  rw [List.take_add_one, List.take_add_one, h, hx, hy, e]
theorem ne_at {α : Type} (X Y : List α) (k : Nat) (x y : α) (hx : X[k]? = some x) (hy : Y[k]? = some y) (e : x ≠ y) : X ≠ Y := by
  intro h; subst h; rw [hx] at hy; cases hy; exact e rfl
theorem toList_eq_iff (x y : ByteArray) : x.toList = y.toList ↔ x = y := by
  rw [ByteArray.toList_eq, ByteArray.toList_eq]
  constructor
  · intro h
    cases x with
    | mk dx => cases y with
      | mk dy => congr 1; cases dx; cases dy; simp at h; rw [h]
  · intro h; rw [h]
end Go.Proofs.Qxb6601135a
