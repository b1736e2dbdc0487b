/-
  Small laws on memory: rows of cells in one block; what a slice holds, between two block numbers; slices that came in.
-/
import Derived.Test.Qxb6000844aRows
import Derived.Deep.QuietTactic
import Derived.BigQuiet
import Derived.RegionTactic
import Derived.Deep.OwnRows
import Derived.SliceStrings
import Derived.Deep.Grids
import Derived.WalkKit
import Derived.ProofKit
import Derived.OpenShut
import Derived.ShutString
import Derived.WalkLawsBesides
import Derived.WalkSpells
import Derived.Handy
namespace Go.Proofs.Qxb6000844a
open Go.ChangeShapes Go.WideShapes Go.ChangeAt Go.RowKit

theorem hide {p : Prop} (h : p) : Hid p := h
theorem ival {k : IntKind} {a b : Int} (h : a = b) : Value.int k a = Value.int k b := by rw [h]
theorem ret_bool {a b : Bool} (h : a = b) : Ending.returned (.bool a) = .returned (.bool b) := by rw [h]
theorem getq (s : ByteArray) (k : Nat) (h : k < s.size) : s.data.toList[k]? = some s[k] := by
  simp [ByteArray.getElem_eq_getElem_data]
theorem len_size (s : ByteArray) : s.data.toList.length = s.size := by rw [Array.length_toList]; rfl

/-- Block b holds just these cells. -/
def RowV (w : World) (b : Nat) (t : TypeId) (cs : List Value) : Prop := w.heap[b]? = some (.cells cs.toArray t (0, 0))
theorem RowV.cell {w : World} {b : Nat} {t : TypeId} {cs : List Value} (h : RowV w b t cs) (i : Nat) (v : Value) (hi : cs[i]? = some v) : w.cell? ⟨b, i, none⟩ = some v := by
  rw [cell_of_row w b i _ t (0, 0) h]; simpa using hi
theorem RowV.frozen {w : World} {b : Nat} {t : TypeId} {cs : List Value} (h : RowV w b t cs) (i : Nat) : w.frozen? ⟨b, i, none⟩ = false :=
  frozen_of_row w b i _ t h
theorem RowV.set {w : World} {b : Nat} {t : TypeId} {cs : List Value} (h : RowV w b t cs) (i : Nat) (v : Value) : RowV (w.setCell ⟨b, i, none⟩ v) b t (cs.set i v) := by
  unfold RowV; rw [heap_setCell_same w b i _ t _ h]; simp
theorem RowV.other {w : World} {b : Nat} {t : TypeId} {cs : List Value} (h : RowV w b t cs) (a : Addr) (v : Value) (hn : b ≠ a.block) : RowV (w.setCell a v) b t cs := by
  unfold RowV; rw [heap_setCell_other w a b v hn]; exact h
theorem RowV.lt {w : World} {b : Nat} {t : TypeId} {cs : List Value} (h : RowV w b t cs) : b < w.heap.size := by
  unfold RowV at h
  rcases Nat.lt_or_ge b w.heap.size with h' | h'
  · exact h'
  · rw [Array.getElem?_eq_none h'] at h; cases h
theorem RowV.alloc {w : World} {b : Nat} {t : TypeId} {cs : List Value} (h : RowV w b t cs) (o : Obj) : RowV (w.alloc o) b t cs := by
  unfold RowV; rw [Below.heap_alloc w o b h.lt]; exact h
theorem RowV.fresh (w : World) (t : TypeId) (cs : List Value) : RowV (w.alloc (.cells cs.toArray t)) w.heap.size t cs := heap_alloc_new w _
theorem RowV.below {w w' : World} {B b : Nat} {t : TypeId} {cs : List Value} (h : RowV w b t cs) (hb : Below B w w') (hB : b < B) : RowV w' b t cs := by
  unfold RowV; rw [hb.block b hB]; exact h
theorem RowV.grown {w w' : World} {r : Option Nat} {b : Nat} {t : TypeId} {cs : List Value} (h : RowV w b t cs) (hg : w.grownBy w' r) (hr : some b ≠ r) : RowV w' b t cs := by
  unfold RowV; rw [hg.block b h.lt hr]; exact h

theorem bcell {B : Nat} {W w1 : World} (hb : Below B W w1) : (∀ b o, b < B → w1.cell? ⟨b, o, none⟩ = W.cell? ⟨b, o, none⟩) ∧ (∀ b o, b < B → w1.frozen? ⟨b, o, none⟩ = W.frozen? ⟨b, o, none⟩) :=
  ⟨fun b o h => hb.cell (p := ⟨b, o, none⟩) h, fun b o h => hb.frozen (p := ⟨b, o, none⟩) h⟩
/-- Each element of xs lies behind the slice's address, in a block from lo on, below hi. -/
def CellsIn (w : World) (lo hi : Nat) (a : Option Addr) (xs : List Value) : Prop :=
  ∀ j u, xs[j]? = some u → ∃ g o, a = some ⟨g, o, none⟩ ∧ lo ≤ g ∧ g < hi ∧ w.cell? ⟨g, o + j, none⟩ = some u
theorem CellsIn.nil (w : World) (lo hi : Nat) (a : Option Addr) : CellsIn w lo hi a [] := fun j u h => by simp at h
theorem CellsIn.keep {w w' : World} {lo hi : Nat} {a : Option Addr} {xs : List Value} (h : CellsIn w lo hi a xs) (hk : ∀ k, lo ≤ k → k < hi → w'.heap[k]? = w.heap[k]?) : CellsIn w' lo hi a xs := fun j u hj => by
  obtain ⟨g, o, ha, h1, h2, hc⟩ := h j u hj
  exact ⟨g, o, ha, h1, h2, (World.cell?_of_block (w := w) (a := ⟨g, o + j, none⟩) (hk g h1 h2)).trans hc⟩
theorem CellsIn.below {w w' : World} {lo hi B : Nat} {a : Option Addr} {xs : List Value} (h : CellsIn w lo hi a xs) (hb : Below B w w') (hB : hi ≤ B) : CellsIn w' lo hi a xs :=
  h.keep fun k _ h2 => hb.block k (by omega)
theorem CellsIn.wide {w : World} {lo hi lo' hi' : Nat} {a : Option Addr} {xs : List Value} (h : CellsIn w lo hi a xs) (h1 : lo' ≤ lo) (h2 : hi ≤ hi') : CellsIn w lo' hi' a xs := fun j u hj => by
  obtain ⟨g, o, ha, p1, p2, hc⟩ := h j u hj
  exact ⟨g, o, ha, by omega, by omega, hc⟩
theorem RowV.cellsIn {w : World} {g : Nat} {t : TypeId} {cs : List Value} (h : RowV w g t cs) (n : Nat) : CellsIn w g (g + 1) (some ⟨g, 0, none⟩) (cs.take n) := fun j u hj => by
  rw [List.getElem?_take] at hj
  split at hj
  · exact ⟨g, 0, rfl, Nat.le_refl _, Nat.lt_succ_self _, by rw [Nat.zero_add]; exact h.cell j u hj⟩
  · cases hj
theorem RowV.cellsAll {w : World} {g : Nat} {t : TypeId} {cs : List Value} (h : RowV w g t cs) : CellsIn w g (g + 1) (some ⟨g, 0, none⟩) cs := by
  have := h.cellsIn cs.length; rwa [List.take_length] at this

def izV (l : List Int) : List Value := l.map fun n => Value.int .i64 n
theorem izV_get (l : List Int) (i : Nat) (x : Int) (h : l[i]? = some x) : (izV l)[i]? = some (.int .i64 x) := by simp [izV, h]
theorem izV_len (l : List Int) : (izV l).length = l.length := by simp [izV]
def strV (l : List ByteArray) : List Value := l.map Value.string
theorem strV_get (l : List ByteArray) (i : Nat) (x : ByteArray) (h : l[i]? = some x) : (strV l)[i]? = some (.string x) := by simp [strV, h]
theorem strV_len (l : List ByteArray) : (strV l).length = l.length := by simp [strV]
theorem at_some {α : Type} (l : List α) (k : Nat) (h : k < l.length) : ∃ x, l[k]? = some x := ⟨l[k], List.getElem?_eq_getElem h⟩
theorem take_same {α : Type} (X Y : List α) (k : Nat) (x y : α) (h : X.take k = Y.take k) (hx : X[k]? = some x) (hy : Y[k]? = some y) (e : x = y) : X.take (k + 1) = Y.take (k + 1) := by
  rw [List.take_add_one, List.take_add_one, h, hx, hy, e]
theorem ne_at {α : Type} (X Y : List α) (k : Nat) (x y : α) (hx : X[k]? = some x) (hy : Y[k]? = some y) (e : x ≠ y) : X ≠ Y := by
  intro h; subst h; rw [hx] at hy; cases hy; exact e rfl
theorem toList_eq_iff (x y : ByteArray) : x.toList = y.toList ↔ x = y := by
  rw [ByteArray.toList_eq, ByteArray.toList_eq]
  constructor
  · intro h
    cases x with
    | mk dx => cases y with
      | mk dy => congr 1; cases dx; cases dy; simp at h; rw [h]
  · intro h; rw [h]
theorem Try.info9 : (Try.prog.info? 9).map (fun i => (i.zero, i.size, i.bytes)) = some (some (.string ⟨#[]⟩), 1, 16) := by kernel_rfl
theorem Try.info3 : (Try.prog.info? 3).map (fun i => (i.zero, i.size, i.bytes)) = some (some (.int .i64 0), 1, 8) := by kernel_rfl

def zrow (z : Value) (n : Nat) : List Value := List.replicate n z
theorem made_zrow (z : Value) (n : Nat) : madeCells #[z] n = (zrow z n).toArray := by
  unfold zrow
  rw [← toList_madeCells_one z n, Array.toArray_toList]
theorem make_run (t e : TypeId) (z : Value) (bytes : Nat) (ht : Try.prog.underlying t = some (.slice e)) (hinfo : (Try.prog.info? e).map (fun i => (i.zero, i.size, i.bytes)) = some (some z, 1, bytes)) (hz1 : z.cells = #[z])
    (n : Nat) (hn : bytes * n ≤ 281474976710656) (h63 : n ≤ 9223372036854775807) (w : World) :
    (Instr.makeSlice t (.int .i64 (n : Int)) (.int .i64 (n : Int))).run Try.prog w = .ok (.slice (some ⟨w.heap.size, 0, none⟩) n n) (w.alloc (.cells (zrow z n).toArray e)) := by
  rw [← made_zrow]
  exact run_make_row' t e z bytes ht hinfo hz1 .i64 .i64 n hn h63 w
theorem zrow_get (z : Value) (n i : Nat) (h : i < n) : (zrow z n)[i]? = some z := by simp [zrow, h]
theorem zrow_len (z : Value) (n : Nat) : (zrow z n).length = n := by simp [zrow]
/-- A row that is filled from the front: the next cell. -/
theorem fill_get (A : List Value) (z : Value) (n : Nat) (h : A.length < n) : (A ++ zrow z (n - A.length))[A.length]? = some z := by
  rw [List.getElem?_append_right (Nat.le_refl _), Nat.sub_self]; exact zrow_get _ _ _ (by omega)
theorem fill_set (A : List Value) (z v : Value) (n : Nat) (h : A.length < n) : (A ++ zrow z (n - A.length)).set A.length v = (A ++ [v]) ++ zrow z (n - (A ++ [v]).length) := by
  obtain ⟨m, hm⟩ : ∃ m, n - A.length = m + 1 := ⟨n - A.length - 1, by omega⟩
  rw [List.set_append_right _ _ (Nat.le_refl _), Nat.sub_self, hm, List.length_append, List.length_singleton, show n - (A.length + 1) = m from by omega, List.append_assoc]
  rfl
theorem nil_of_none {w : World} {lo hi : Nat} {xs : List Value} (h : CellsIn w lo hi none xs) : xs = [] := by
  cases xs with
  | nil => rfl
  | cons u t => obtain ⟨g, o, ha, _⟩ := h 0 u rfl; cases ha
theorem strV_snoc (l : List ByteArray) (x : ByteArray) : strV l ++ [.string x] = strV (l ++ [x]) := by simp [strV]
theorem take_at {α : Type} (l : List α) (k : Nat) (x : α) (h : l[k]? = some x) : l.take (k + 1) = l.take k ++ [x] := by
  rw [List.take_add_one, h]; rfl
theorem len_take {α : Type} (l : List α) (k : Nat) (h : k ≤ l.length) : (l.take k).length = k := by rw [List.length_take]; omega
theorem strV_nil (l : List ByteArray) (h : strV l = []) : l = [] := List.map_eq_nil_iff.1 h

theorem izV_snoc (l : List Int) (x : Int) : izV l ++ [.int .i64 x] = izV (l ++ [x]) := by simp [izV]
theorem izV_nil (l : List Int) (h : izV l = []) : l = [] := List.map_eq_nil_iff.1 h
theorem cells_arg {W : World} {a : Addr} {xs : List Value} (h : ∀ i u, xs[i]? = some u → W.cell? (a.add i) = some u) : CellsIn W 0 W.heap.size (some a) xs := by
  intro j u hj
  have h0 : ∃ u0, xs[0]? = some u0 := by
    cases xs with
    | nil => simp at hj
    | cons v t => exact ⟨v, rfl⟩
  obtain ⟨u0, hu0⟩ := h0
  obtain ⟨g, o, spot⟩ := a
  have hspot : spot = none := by simpa [Addr.add] using World.cell?_spot (h 0 u0 hu0)
  subst hspot
  have hc := h j u hj
  rw [add_plain] at hc
  exact ⟨g, o, rfl, Nat.zero_le _, World.block_lt_of_cell? _ _ hc, hc⟩
theorem strs_arg {W : World} {a : Addr} (ss : List ByteArray) (len : Nat) (h : ∀ i, i < ss.length → W.cell? (a.add i) = some (.string (ss.getD i ByteArray.empty))) : CellsIn W 0 W.heap.size (some a) (strV (ss.take len)) := by
  apply cells_arg
  intro i u hu
  unfold strV at hu
  rw [List.getElem?_map, List.getElem?_take] at hu
  split at hu
  · cases hs : ss[i]? with
    | none => rw [hs] at hu; simp at hu
    | some x =>
      rw [hs] at hu
      simp at hu
      subst hu
      have hl := (List.getElem?_eq_some_iff.1 hs).1
      have := h i hl
      rw [List.getD_eq_getElem?_getD, hs] at this
      exact this
  · simp at hu
theorem ints_arg {W : World} {a : Addr} (zs : List Int) (len : Nat) (h : ∀ i, i < zs.length → W.cell? (a.add i) = some (.int .i64 (zs.getD i 0))) : CellsIn W 0 W.heap.size (some a) (izV (zs.take len)) := by
  apply cells_arg
  intro i u hu
  unfold izV at hu
  rw [List.getElem?_map, List.getElem?_take] at hu
  split at hu
  · cases hs : zs[i]? with
    | none => rw [hs] at hu; simp at hu
    | some x =>
      rw [hs] at hu
      simp at hu
      subst hu
      have hl := (List.getElem?_eq_some_iff.1 hs).1
      have := h i hl
      rw [List.getD_eq_getElem?_getD, hs] at this
      exact this
  · simp at hu
theorem below_trans {w w1 w2 : World} (h : Below w.heap.size w w1) (k : Below w1.heap.size w1 w2) : Below w.heap.size w w2 := h.trans (k.mono h.size)
end Go.Proofs.Qxb6000844a
