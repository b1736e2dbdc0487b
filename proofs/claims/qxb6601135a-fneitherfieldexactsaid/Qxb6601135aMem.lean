/-
  Small laws on memory: a row of cells in one block of the call's own; what a slice that the call made holds.
-/
import Derived.Test.Qxb6601135aRows
import Derived.Test.Qxb6601135aPlain
import Derived.WalkKit
import Derived.ProofKit
import Derived.OpenShut
import Derived.ShutString
import Derived.WalkLawsBesides
import Derived.WalkSpells
import Derived.Handy
namespace Go.Proofs.Qxb6601135a
open Go.ChangeShapes Go.WideShapes Go.ChangeAt Go.RowKit

theorem hide {p : Prop} (h : p) : Hid p := h
theorem ival {k : IntKind} {a b : Int} (h : a = b) : Value.int k a = Value.int k b := by rw [h]
theorem ret_bool {a b : Bool} (h : a = b) : Ending.returned (.bool a) = .returned (.bool b) := by rw [h]
theorem getq (s : ByteArray) (k : Nat) (h : k < s.size) : s.data.toList[k]? = some s[k] := by
  simp [ByteArray.getElem_eq_getElem_data]
theorem len_size (s : ByteArray) : s.data.toList.length = s.size := by rw [Array.length_toList]; rfl

/-- Block b holds just these cells. -/
def RowV (w : World) (b : Nat) (t : TypeId) (cs : List Value) : Prop := w.heap[b]? = some (.cells cs.toArray t (0, 0))
theorem RowV.cell {w : World} {b : Nat} {t : TypeId} {cs : List Value} (h : RowV w b t cs) (i : Nat) (v : Value) (hi : cs[i]? = some v) : w.cell? ⟨b, i, none⟩ = some v := by
  rw [cell_of_row w b i _ t (0, 0) h]; simpa using hi
theorem RowV.frozen {w : World} {b : Nat} {t : TypeId} {cs : List Value} (h : RowV w b t cs) (i : Nat) : w.frozen? ⟨b, i, none⟩ = false :=
  frozen_of_row w b i _ t h
theorem RowV.set {w : World} {b : Nat} {t : TypeId} {cs : List Value} (h : RowV w b t cs) (i : Nat) (v : Value) : RowV (w.setCell ⟨b, i, none⟩ v) b t (cs.set i v) := by
  unfold RowV; rw [heap_setCell_same w b i _ t _ h]; simp
theorem RowV.other {w : World} {b : Nat} {t : TypeId} {cs : List Value} (h : RowV w b t cs) (a : Addr) (v : Value) (hn : b ≠ a.block) : RowV (w.setCell a v) b t cs := by
  unfold RowV; rw [heap_setCell_other w a b v hn]; exact h
theorem RowV.lt {w : World} {b : Nat} {t : TypeId} {cs : List Value} (h : RowV w b t cs) : b < w.heap.size := by
  unfold RowV at h
  rcases Nat.lt_or_ge b w.heap.size with h' | h'
  · exact h'
  · rw [Array.getElem?_eq_none h'] at h; cases h
theorem RowV.alloc {w : World} {b : Nat} {t : TypeId} {cs : List Value} (h : RowV w b t cs) (o : Obj) : RowV (w.alloc o) b t cs := by
  unfold RowV; rw [Below.heap_alloc w o b h.lt]; exact h
theorem RowV.fresh (w : World) (t : TypeId) (cs : List Value) : RowV (w.alloc (.cells cs.toArray t)) w.heap.size t cs := heap_alloc_new w _
theorem RowV.below {w w' : World} {B b : Nat} {t : TypeId} {cs : List Value} (h : RowV w b t cs) (hb : Below B w w') (hB : b < B) : RowV w' b t cs := by
  unfold RowV; rw [hb.block b hB]; exact h
theorem RowV.grown {w w' : World} {r : Option Nat} {b : Nat} {t : TypeId} {cs : List Value} (h : RowV w b t cs) (hg : w.grownBy w' r) (hr : some b ≠ r) : RowV w' b t cs := by
  unfold RowV; rw [hg.block b h.lt hr]; exact h

/-- A slice that the call made: nil, or a row whose first cells are xs. -/
theorem owns_cases {w : World} {base : Nat} {e : TypeId} {v : Value} {n : Nat} {xs : List Value} (h : w.ownsRow base e 1 v n xs) :
    xs.length = n ∧ ((v = .slice none 0 0 ∧ n = 0) ∨ ∃ g cap, v = .slice (some ⟨g, 0, none⟩) n cap ∧ base ≤ g ∧ g < w.heap.size ∧ n ≤ cap ∧ cap ≤ maxLen ∧ ∀ j u, xs[j]? = some u → w.cell? ⟨g, j, none⟩ = some u) := by
  have hl := h.1
  refine ⟨by simpa using hl, ?_⟩
  have hc := fun g (hg : v.ownBlock = some g) => World.ownsRow.cells h hg
  have hlt := World.ownsRow.lt h
  rcases h.2 with h2 | ⟨g, cap, cur, hv, hb, hh, hn, hm, hs, ht⟩
  · exact Or.inl h2
  · refine Or.inr ⟨g, cap, hv, hb, (hlt g (by rw [hv]; rfl)).2, hn, hm, fun j u hj => ?_⟩
    have := hc g (by rw [hv]; rfl) j u hj
    rwa [add_plain, Nat.zero_add] at this
theorem bcell {B : Nat} {W w1 : World} (hb : Below B W w1) : (∀ b o, b < B → w1.cell? ⟨b, o, none⟩ = W.cell? ⟨b, o, none⟩) ∧ (∀ b o, b < B → w1.frozen? ⟨b, o, none⟩ = W.frozen? ⟨b, o, none⟩) :=
  ⟨fun b o h => hb.cell (p := ⟨b, o, none⟩) h, fun b o h => hb.frozen (p := ⟨b, o, none⟩) h⟩
end Go.Proofs.Qxb6601135a
