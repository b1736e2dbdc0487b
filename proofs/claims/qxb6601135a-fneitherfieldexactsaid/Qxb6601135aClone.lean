/-
  efCloneS, efCloneB, efCloneW: a slice of the same elements in a new block (nil for nil).
-/
import Derived.Test.Qxb6601135aEMem
import Derived.Deep.OwnRows
namespace Go.Proofs.Qxb6601135a
open Go.ChangeShapes Go.WideShapes Go.ChangeAt Go.RowKit
set_option linter.unusedVariables false

theorem Try.info9 : (Try.prog.info? 9).map (fun i => (i.zero, i.size, i.bytes)) = some (some (.string ⟨#[]⟩), 1, 16) := by kernel_rfl
theorem Try.info4 : (Try.prog.info? 4).map (fun i => (i.zero, i.size, i.bytes)) = some (some (.bool false), 1, 1) := by kernel_rfl
theorem Try.info35 : (Try.prog.info? 35).map (fun i => (i.zero, i.size, i.bytes)) = some (some (.int .u64 0), 1, 8) := by kernel_rfl
theorem Try.info3 : (Try.prog.info? 3).map (fun i => (i.zero, i.size, i.bytes)) = some (some (.int .i64 0), 1, 8) := by kernel_rfl

def zrow (z : Value) (n : Nat) : List Value := List.replicate n z
theorem made_zrow (z : Value) (n : Nat) : madeCells #[z] n = (zrow z n).toArray := by
  unfold zrow
  rw [← toList_madeCells_one z n, Array.toArray_toList]
theorem make_run (t e : TypeId) (z : Value) (bytes : Nat) (ht : Try.prog.underlying t = some (.slice e)) (hinfo : (Try.prog.info? e).map (fun i => (i.zero, i.size, i.bytes)) = some (some z, 1, bytes)) (hz1 : z.cells = #[z])
    (n : Nat) (hn : bytes * n ≤ 281474976710656) (h63 : n ≤ 9223372036854775807) (w : World) :
    (Instr.makeSlice t (.int .i64 (n : Int)) (.int .i64 (n : Int))).run Try.prog w = .ok (.slice (some ⟨w.heap.size, 0, none⟩) n n) (w.alloc (.cells (zrow z n).toArray e)) := by
  rw [← made_zrow]
  exact run_make_row' t e z bytes ht hinfo hz1 .i64 .i64 n hn h63 w
theorem zrow_get (z : Value) (n i : Nat) (h : i < n) : (zrow z n)[i]? = some z := by simp [zrow, h]
theorem zrow_len (z : Value) (n : Nat) : (zrow z n).length = n := by simp [zrow]
/-- A row that is filled from the front: the next cell. -/
theorem fill_get (A : List Value) (z : Value) (n : Nat) (h : A.length < n) : (A ++ zrow z (n - A.length))[A.length]? = some z := by
  rw [List.getElem?_append_right (Nat.le_refl _), Nat.sub_self]; exact zrow_get _ _ _ (by omega)
theorem fill_set (A : List Value) (z v : Value) (n : Nat) (h : A.length < n) : (A ++ zrow z (n - A.length)).set A.length v = (A ++ [v]) ++ zrow z (n - (A ++ [v]).length) := by
  obtain ⟨m, hm⟩ : ∃ m, n - A.length = m + 1 := ⟨n - A.length - 1, by omega⟩
  rw [List.set_append_right _ _ (Nat.le_refl _), Nat.sub_self, hm, List.length_append, List.length_singleton, show n - (A.length + 1) = m from by omega, List.append_assoc]
  rfl
theorem nil_of_none {w : World} {lo hi : Nat} {xs : List Value} (h : CellsIn w lo hi none xs) : xs = [] := by
  cases xs with
  | nil => rfl
  | cons u t => obtain ⟨g, o, ha, _⟩ := h 0 u rfl; cases ha
theorem strV_snoc (l : List ByteArray) (x : ByteArray) : strV l ++ [.string x] = strV (l ++ [x]) := by simp [strV]
theorem blV_snoc (l : List Bool) (x : Bool) : blV l ++ [.bool x] = blV (l ++ [x]) := by simp [blV]
theorem wdV_snoc (l : List Nat) (x : Nat) : wdV l ++ [.int .u64 (x : Int)] = wdV (l ++ [x]) := by simp [wdV]
theorem inV_snoc (l : List Nat) (x : Nat) : inV l ++ [.int .i64 (x : Int)] = inV (l ++ [x]) := by simp [inV]
theorem take_at {α : Type} (l : List α) (k : Nat) (x : α) (h : l[k]? = some x) : l.take (k + 1) = l.take k ++ [x] := by
  rw [List.take_add_one, h]; rfl
theorem len_take {α : Type} (l : List α) (k : Nat) (h : k ≤ l.length) : (l.take k).length = k := by rw [List.length_take]; omega
theorem strV_nil (l : List ByteArray) (h : strV l = []) : l = [] := List.map_eq_nil_iff.1 h
theorem blV_nil (l : List Bool) (h : blV l = []) : l = [] := List.map_eq_nil_iff.1 h
theorem wdV_nil (l : List Nat) (h : wdV l = []) : l = [] := List.map_eq_nil_iff.1 h
theorem inV_nil (l : List Nat) (h : inV l = []) : l = [] := List.map_eq_nil_iff.1 h

set_option maxHeartbeats 400000 in
theorem F21 (a : Option Addr) (c lo hi : Nat) (X : List ByteArray) (w : World) (hX : CellsIn w lo hi a (strV X)) (b1 : hi ≤ w.heap.size) (n1 : X.length ≤ 200000) :
    Calls Try.prog 21 #[.slice a X.length c] w fun e w' => ∃ a', e = .returned (.slice a' X.length X.length) ∧ (a' = none ↔ a = none) ∧ (∀ ad, a' = some ad → ad = ⟨w.heap.size, 0, none⟩ ∧ RowV w' w.heap.size 9 (strV X)) ∧ Below w.heap.size w w' := by
  have hnl := fun (wx : World) (a : Option Addr) (n c : Nat) => Lib.run_eql_slice_nil (P := Try.prog) wx 32 9 a n c 0 0 Try.underlying32
  have hmk := make_run 32 9 (.string ⟨#[]⟩) 16 Try.underlying32 Try.info9 rfl X.length (by omega) (by omega)
  cases a with
  | none =>
    obtain rfl := strV_nil X (nil_of_none hX)
    clear hX hmk
    go_enter Try.func21, Try.ntmps21
    go_wp2
    go_ret
    exact ⟨none, rfl, by simp, fun ad h => by (cases h), Below.refl _ _⟩
  | some ad0 =>
    have HX := hide hX
    clear hX
    go_enter Try.func21, Try.ntmps21
    go_wp2
    go_loopw [4] (fun i wr => ∃ k : Nat, k ≤ X.length ∧ i = .int .i64 k ∧ RowV wr w.heap.size 9 (strV (X.take k) ++ zrow (.string ⟨#[]⟩) (X.length - (strV (X.take k)).length)) ∧ Below w.heap.size w wr) (fun i _ => X.length - (intOf i).toNat)
    case atStart => exact ⟨0, Nat.zero_le _, rfl, RowV.fresh w 9 (zrow (.string ⟨#[]⟩) X.length), (Below.refl _ _).alloc (Nat.le_refl _) _⟩
    case round =>
      obtain ⟨k, hk, rfl, hrow, hbel⟩ := hrel
      have hlk : (strV (X.take k)).length = k := by rw [strV_len, len_take X k hk]
      by_cases hlt : k < X.length
      · obtain ⟨x, hx⟩ := at_some X k hlt
        obtain ⟨g, o, hado, _, _, hcx⟩ := (HX.out.below hbel b1) k _ (strV_get X k x hx)
        cases hado
        have hc := hrow.cell k _ (by have := fill_get (strV (X.take k)) (.string ⟨#[]⟩) X.length (by omega); rwa [hlk] at this ⊢)
        have hf := hrow.frozen k
        have HS : Hid ((strV (X.take k) ++ zrow (.string ⟨#[]⟩) (X.length - (strV (X.take k)).length)).set k (.string x) = strV (X.take (k + 1)) ++ zrow (.string ⟨#[]⟩) (X.length - (strV (X.take (k + 1))).length)) := by
          have h := fill_set (strV (X.take k)) (.string ⟨#[]⟩) (.string x) X.length (by omega)
          rw [strV_snoc, ← take_at X k x hx] at h
          rw [show (strV (X.take k)).length = k from hlk] at h ⊢
          exact h
        have HR := hide hrow
        have HB := hide hbel
        clear hx hlk hrow hbel
        go_wp2_with fail
        go_roundw
        case rel => exact ⟨k + 1, by omega, by go_num, by rw [← HS.out]; exact HR.out.set _ _, HB.out.setCell (Nat.le_refl _) _⟩
        case measure => (simp [intOf]; try omega)
      · obtain rfl : k = X.length := by omega
        have HR : Hid (RowV wr w.heap.size 9 (strV X)) := by
          have h := hrow
          rw [List.take_length, strV_len, Nat.sub_self] at h
          rw [show strV X = strV X ++ zrow (.string ⟨#[]⟩) 0 from (List.append_nil _).symm]
          exact h
        have HB := hide hbel
        clear hrow hbel hlk
        go_wp2_with fail
        go_ret
        exact ⟨some ⟨w.heap.size, 0, none⟩, rfl, by simp, fun ad h => by (cases h; exact ⟨rfl, HR.out⟩), HB.out⟩

set_option maxHeartbeats 400000 in
theorem F22 (a : Option Addr) (c lo hi : Nat) (X : List Bool) (w : World) (hX : CellsIn w lo hi a (blV X)) (b1 : hi ≤ w.heap.size) (n1 : X.length ≤ 200000) :
    Calls Try.prog 22 #[.slice a X.length c] w fun e w' => ∃ a', e = .returned (.slice a' X.length X.length) ∧ (a' = none ↔ a = none) ∧ (∀ ad, a' = some ad → ad = ⟨w.heap.size, 0, none⟩ ∧ RowV w' w.heap.size 4 (blV X)) ∧ Below w.heap.size w w' := by
  have hnl := fun (wx : World) (a : Option Addr) (n c : Nat) => Lib.run_eql_slice_nil (P := Try.prog) wx 33 4 a n c 0 0 Try.underlying33
  have hmk := make_run 33 4 (.bool false) 1 Try.underlying33 Try.info4 rfl X.length (by omega) (by omega)
  cases a with
  | none =>
    obtain rfl := blV_nil X (nil_of_none hX)
    clear hX hmk
    go_enter Try.func22, Try.ntmps22
    go_wp2
    go_ret
    exact ⟨none, rfl, by simp, fun ad h => by (cases h), Below.refl _ _⟩
  | some ad0 =>
    have HX := hide hX
    clear hX
    go_enter Try.func22, Try.ntmps22
    go_wp2
    go_loopw [4] (fun i wr => ∃ k : Nat, k ≤ X.length ∧ i = .int .i64 k ∧ RowV wr w.heap.size 4 (blV (X.take k) ++ zrow (.bool false) (X.length - (blV (X.take k)).length)) ∧ Below w.heap.size w wr) (fun i _ => X.length - (intOf i).toNat)
    case atStart => exact ⟨0, Nat.zero_le _, rfl, RowV.fresh w 4 (zrow (.bool false) X.length), (Below.refl _ _).alloc (Nat.le_refl _) _⟩
    case round =>
      obtain ⟨k, hk, rfl, hrow, hbel⟩ := hrel
      have hlk : (blV (X.take k)).length = k := by rw [blV_len, len_take X k hk]
      by_cases hlt : k < X.length
      · obtain ⟨x, hx⟩ := at_some X k hlt
        obtain ⟨g, o, hado, _, _, hcx⟩ := (HX.out.below hbel b1) k _ (blV_get X k x hx)
        cases hado
        have hc := hrow.cell k _ (by have := fill_get (blV (X.take k)) (.bool false) X.length (by omega); rwa [hlk] at this ⊢)
        have hf := hrow.frozen k
        have HS : Hid ((blV (X.take k) ++ zrow (.bool false) (X.length - (blV (X.take k)).length)).set k (.bool x) = blV (X.take (k + 1)) ++ zrow (.bool false) (X.length - (blV (X.take (k + 1))).length)) := by
          have h := fill_set (blV (X.take k)) (.bool false) (.bool x) X.length (by omega)
          rw [blV_snoc, ← take_at X k x hx] at h
          rw [show (blV (X.take k)).length = k from hlk] at h ⊢
          exact h
        have HR := hide hrow
        have HB := hide hbel
        clear hx hlk hrow hbel
        go_wp2_with fail
        go_roundw
        case rel => exact ⟨k + 1, by omega, by go_num, by rw [← HS.out]; exact HR.out.set _ _, HB.out.setCell (Nat.le_refl _) _⟩
        case measure => (simp [intOf]; try omega)
      · obtain rfl : k = X.length := by omega
        have HR : Hid (RowV wr w.heap.size 4 (blV X)) := by
          have h := hrow
          rw [List.take_length, blV_len, Nat.sub_self] at h
          rw [show blV X = blV X ++ zrow (.bool false) 0 from (List.append_nil _).symm]
          exact h
        have HB := hide hbel
        clear hrow hbel hlk
        go_wp2_with fail
        go_ret
        exact ⟨some ⟨w.heap.size, 0, none⟩, rfl, by simp, fun ad h => by (cases h; exact ⟨rfl, HR.out⟩), HB.out⟩

set_option maxHeartbeats 400000 in
theorem F23 (a : Option Addr) (c lo hi : Nat) (X : List Nat) (w : World) (hX : CellsIn w lo hi a (wdV X)) (b1 : hi ≤ w.heap.size) (n1 : X.length ≤ 200000) :
    Calls Try.prog 23 #[.slice a X.length c] w fun e w' => ∃ a', e = .returned (.slice a' X.length X.length) ∧ (a' = none ↔ a = none) ∧ (∀ ad, a' = some ad → ad = ⟨w.heap.size, 0, none⟩ ∧ RowV w' w.heap.size 35 (wdV X)) ∧ Below w.heap.size w w' := by
  have hnl := fun (wx : World) (a : Option Addr) (n c : Nat) => Lib.run_eql_slice_nil (P := Try.prog) wx 34 35 a n c 0 0 Try.underlying34
  have hmk := make_run 34 35 (.int .u64 0) 8 Try.underlying34 Try.info35 rfl X.length (by omega) (by omega)
  cases a with
  | none =>
    obtain rfl := wdV_nil X (nil_of_none hX)
    clear hX hmk
    go_enter Try.func23, Try.ntmps23
    go_wp2
    go_ret
    exact ⟨none, rfl, by simp, fun ad h => by (cases h), Below.refl _ _⟩
  | some ad0 =>
    have HX := hide hX
    clear hX
    go_enter Try.func23, Try.ntmps23
    go_wp2
    go_loopw [4] (fun i wr => ∃ k : Nat, k ≤ X.length ∧ i = .int .i64 k ∧ RowV wr w.heap.size 35 (wdV (X.take k) ++ zrow (.int .u64 0) (X.length - (wdV (X.take k)).length)) ∧ Below w.heap.size w wr) (fun i _ => X.length - (intOf i).toNat)
    case atStart => exact ⟨0, Nat.zero_le _, rfl, RowV.fresh w 35 (zrow (.int .u64 0) X.length), (Below.refl _ _).alloc (Nat.le_refl _) _⟩
    case round =>
      obtain ⟨k, hk, rfl, hrow, hbel⟩ := hrel
      have hlk : (wdV (X.take k)).length = k := by rw [wdV_len, len_take X k hk]
      by_cases hlt : k < X.length
      · obtain ⟨x, hx⟩ := at_some X k hlt
        obtain ⟨g, o, hado, _, _, hcx⟩ := (HX.out.below hbel b1) k _ (wdV_get X k x hx)
        cases hado
        have hc := hrow.cell k _ (by have := fill_get (wdV (X.take k)) (.int .u64 0) X.length (by omega); rwa [hlk] at this ⊢)
        have hf := hrow.frozen k
        have HS : Hid ((wdV (X.take k) ++ zrow (.int .u64 0) (X.length - (wdV (X.take k)).length)).set k (.int .u64 (x : Int)) = wdV (X.take (k + 1)) ++ zrow (.int .u64 0) (X.length - (wdV (X.take (k + 1))).length)) := by
          have h := fill_set (wdV (X.take k)) (.int .u64 0) (.int .u64 (x : Int)) X.length (by omega)
          rw [wdV_snoc, ← take_at X k x hx] at h
          rw [show (wdV (X.take k)).length = k from hlk] at h ⊢
          exact h
        have HR := hide hrow
        have HB := hide hbel
        clear hx hlk hrow hbel
        go_wp2_with fail
        go_roundw
        case rel => exact ⟨k + 1, by omega, by go_num, by rw [← HS.out]; exact HR.out.set _ _, HB.out.setCell (Nat.le_refl _) _⟩
        case measure => (simp [intOf]; try omega)
      · obtain rfl : k = X.length := by omega
        have HR : Hid (RowV wr w.heap.size 35 (wdV X)) := by
          have h := hrow
          rw [List.take_length, wdV_len, Nat.sub_self] at h
          rw [show wdV X = wdV X ++ zrow (.int .u64 0) 0 from (List.append_nil _).symm]
          exact h
        have HB := hide hbel
        clear hrow hbel hlk
        go_wp2_with fail
        go_ret
        exact ⟨some ⟨w.heap.size, 0, none⟩, rfl, by simp, fun ad h => by (cases h; exact ⟨rfl, HR.out⟩), HB.out⟩
end Go.Proofs.Qxb6601135a
