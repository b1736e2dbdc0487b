/-
  A row of bytes in one block of the call's own: what its cells read as, and a store into it.
-/
import Derived.Test.Qxb6600417aSmall
namespace Go.Proofs.Qxb6600417a
open Go.ChangeShapes Go.WideShapes Go.ChangeAt Go.RowKit

def bcells (l : List UInt8) : Array Value := (l.map fun c => Value.int .u8 (c.toNat : Int)).toArray
/-- Block b holds just these bytes. -/
def Row (w : World) (b : Nat) (t : TypeId) (l : List UInt8) : Prop := w.heap[b]? = some (.cells (bcells l) t (0, 0))

theorem bcells_get (l : List UInt8) (i : Nat) : (bcells l)[i]? = (l[i]?).map fun c => Value.int .u8 (c.toNat : Int) := by
  simp [bcells]
theorem bcells_set (l : List UInt8) (i : Nat) (c : UInt8) : (bcells l).setIfInBounds i (Value.int .u8 (c.toNat : Int)) = bcells (l.set i c) := by
  simp [bcells, List.map_set]
theorem Row.cell {w : World} {b : Nat} {t : TypeId} {l : List UInt8} (h : Row w b t l) (i : Nat) (c : UInt8) (hi : l[i]? = some c) : w.cell? ⟨b, i, none⟩ = some (.int .u8 (c.toNat : Int)) := by
  rw [cell_of_row w b i _ t (0, 0) h, bcells_get, hi]; rfl
theorem Row.frozen {w : World} {b : Nat} {t : TypeId} {l : List UInt8} (h : Row w b t l) (i : Nat) : w.frozen? ⟨b, i, none⟩ = false :=
  frozen_of_row w b i _ t h
theorem Row.set {w : World} {b : Nat} {t : TypeId} {l : List UInt8} (h : Row w b t l) (i : Nat) (c : UInt8) : Row (w.setCell ⟨b, i, none⟩ (.int .u8 (c.toNat : Int))) b t (l.set i c) := by
  unfold Row; rw [heap_setCell_same w b i _ t _ h, bcells_set]
theorem Row.setv {w : World} {b : Nat} {t : TypeId} {l : List UInt8} (h : Row w b t l) (i : Nat) (c : UInt8) (x : Int) (hx : x = (c.toNat : Int)) : Row (w.setCell ⟨b, i, none⟩ (.int .u8 x)) b t (l.set i c) := by
  rw [hx]; exact h.set i c
theorem Row.other {w : World} {b : Nat} {t : TypeId} {l : List UInt8} (h : Row w b t l) (a : Addr) (v : Value) (hn : b ≠ a.block) : Row (w.setCell a v) b t l := by
  unfold Row; rw [heap_setCell_other w a b v hn]; exact h
theorem Row.lt {w : World} {b : Nat} {t : TypeId} {l : List UInt8} (h : Row w b t l) : b < w.heap.size := by
  unfold Row at h
  rcases Nat.lt_or_ge b w.heap.size with h' | h'
  · exact h'
  · rw [Array.getElem?_eq_none h'] at h; cases h
theorem Row.alloc {w : World} {b : Nat} {t : TypeId} {l : List UInt8} (h : Row w b t l) (o : Obj) : Row (w.alloc o) b t l := by
  unfold Row; rw [Below.heap_alloc w o b h.lt]; exact h
theorem Row.fresh (w : World) (t : TypeId) (l : List UInt8) : Row (w.alloc (.cells (bcells l) t)) w.heap.size t l := heap_alloc_new w _

theorem hide {p : Prop} (h : p) : Hid p := h
theorem ival {k : IntKind} {a b : Int} (h : a = b) : Value.int k a = Value.int k b := by rw [h]
theorem take_set (l : List UInt8) (m : Nat) (c : UInt8) (h : m < l.length) : (l.set m c).take (m + 1) = l.take m ++ [c] := by
  rw [List.take_succ_eq_append_getElem (by simpa using h), List.take_set_of_le (Nat.le_refl _)]
  simp

/-- The bytes of a row, as a text. -/
theorem push_all : ∀ (l : List UInt8) (b : ByteArray), (l.map fun c => (c.toNat : Int)).foldl (fun r n => r.push (UInt8.ofNat n.toNat)) b = ⟨b.data ++ l.toArray⟩
  | [], b => by simp
  | c :: t, b => by
    rw [List.map_cons, List.foldl_cons, push_all t]
    simp [ByteArray.push]
theorem Row.text {w : World} {b : Nat} {t : TypeId} {l : List UInt8} (h : Row w b t l) (m c : Nat) (hm : m ≤ l.length) :
    (convert 33 9 (.slice (some ⟨b, 0, none⟩) m c)).run Try.prog w = .ok (.string ⟨(l.take m).toArray⟩) w := by
  rw [run_convert_bytes_string w 33 9 5 _ _ _ Try.underlying33 Try.underlying5 Try.underlying9]
  have hl : (loadCells ⟨b, 0, none⟩ m).run Try.prog w = .ok (((l.take m).map fun c => (c.toNat : Int)).map (Value.int .u8)).toArray w := by
    have := run_loadCells_list (P := Try.prog) (w := w) ⟨b, 0, none⟩ (((l.take m).map fun c => (c.toNat : Int)).map (Value.int .u8)) (fun j v hv => by
      rw [List.getElem?_map, List.getElem?_map, List.getElem?_take] at hv
      split at hv
      · cases hj : l[j]? with
        | none => rw [hj] at hv; simp at hv
        | some c =>
          rw [hj] at hv
          simp at hv
          subst hv
          rw [add_plain, Nat.zero_add]
          exact h.cell j c hj
      · simp at hv)
    simpa [List.length_take, Nat.min_eq_left hm] using this
  rw [run_bytesToString w ⟨b, 0, none⟩ m c _ hl, push_all]
  simp
def blank (n : Nat) : List UInt8 := List.replicate n 0
theorem zero96 (w : World) : (zeroValue 32).run Try.prog w = .ok (.agg (bcells (blank 96))) w := by kernel_rfl
theorem zero18 (w : World) : (zeroValue 29).run Try.prog w = .ok (.agg (bcells (blank 18))) w := by kernel_rfl
theorem zero19 (w : World) : (zeroValue 31).run Try.prog w = .ok (.agg (bcells (blank 19))) w := by kernel_rfl
theorem size32 (w : World) : (sizeOf (Try.prog.elem 32)).run Try.prog w = .ok 1 w := by kernel_rfl
theorem slice96 (b m : Nat) (hm : m ≤ 96) (w : World) :
    (Instr.sliceAt 32 (.pointer (some ⟨b, 0, none⟩)) none (some (.int .i64 (m : Int))) none).run Try.prog w = .ok (.slice (some ⟨b, 0, none⟩) m 96) w := by
  have hl : Try.prog.arrayLen 32 = 96 := by kernel_rfl
  rw [run_sliceAt_array_h w 32 ⟨b, 0, none⟩ (by kernel_rfl) .i64 (m : Int) (by omega) (by rw [hl]; omega), size32, hl]
  simp [Result.andThen, slicedAt, Addr.add]
end Go.Proofs.Qxb6600417a
