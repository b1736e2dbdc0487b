/-
  zzCloneStrings, zzCloneInts: a slice of the same elements in a new block (nil for nil).
-/
import Derived.Test.Qxb6000844aMem
namespace Go.Proofs.Qxb6000844a
open Go.ChangeShapes Go.WideShapes Go.ChangeAt Go.RowKit
set_option linter.unusedVariables false

set_option maxHeartbeats 400000 in
theorem F14 (a : Option Addr) (c lo hi : Nat) (X : List ByteArray) (w : World) (hX : CellsIn w lo hi a (strV X)) (b1 : hi ≤ w.heap.size) (n1 : X.length ≤ 200000) :
    Calls Try.prog 14 #[.slice a X.length c] w fun e w' => ∃ a', e = .returned (.slice a' X.length X.length) ∧ (a' = none ↔ a = none) ∧ (∀ ad, a' = some ad → ad = ⟨w.heap.size, 0, none⟩ ∧ RowV w' w.heap.size 9 (strV X)) ∧ Below w.heap.size w w' := by
  have hnl := fun (wx : World) (a : Option Addr) (n c : Nat) => Lib.run_eql_slice_nil (P := Try.prog) wx 28 9 a n c 0 0 Try.underlying28
  have hmk := make_run 28 9 (.string ⟨#[]⟩) 16 Try.underlying28 Try.info9 rfl X.length (by omega) (by omega)
  cases a with
  | none =>
    obtain rfl := strV_nil X (nil_of_none hX)
    clear hX hmk
    go_enter Try.func14, Try.ntmps14
    go_wp2
    go_ret
    exact ⟨none, rfl, by simp, fun ad h => by (cases h), Below.refl _ _⟩
  | some ad0 =>
    have HX := hide hX
    clear hX
    go_enter Try.func14, Try.ntmps14
    go_wp2
    go_loopw [4] (fun i wr => ∃ k : Nat, k ≤ X.length ∧ i = .int .i64 k ∧ RowV wr w.heap.size 9 (strV (X.take k) ++ zrow (.string ⟨#[]⟩) (X.length - (strV (X.take k)).length)) ∧ Below w.heap.size w wr) (fun i _ => X.length - (intOf i).toNat)
    case atStart => exact ⟨0, Nat.zero_le _, rfl, RowV.fresh w 9 (zrow (.string ⟨#[]⟩) X.length), (Below.refl _ _).alloc (Nat.le_refl _) _⟩
    case round =>
      obtain ⟨k, hk, rfl, hrow, hbel⟩ := hrel
      have hlk : (strV (X.take k)).length = k := by rw [strV_len, len_take X k hk]
      by_cases hlt : k < X.length
      · obtain ⟨x, hx⟩ := at_some X k hlt
        obtain ⟨g, o, hado, _, _, hcx⟩ := (HX.out.below hbel b1) k _ (strV_get X k x hx)
        cases hado
        have hc := hrow.cell k _ (by have := fill_get (strV (X.take k)) (.string ⟨#[]⟩) X.length (by omega); rwa [hlk] at this ⊢)
        have hf := hrow.frozen k
        have HS : Hid ((strV (X.take k) ++ zrow (.string ⟨#[]⟩) (X.length - (strV (X.take k)).length)).set k (.string x) = strV (X.take (k + 1)) ++ zrow (.string ⟨#[]⟩) (X.length - (strV (X.take (k + 1))).length)) := by
          have h := fill_set (strV (X.take k)) (.string ⟨#[]⟩) (.string x) X.length (by omega)
          rw [strV_snoc, ← take_at X k x hx] at h
          rw [show (strV (X.take k)).length = k from hlk] at h ⊢
          exact h
        have HR := hide hrow
        have HB := hide hbel
        clear hx hlk hrow hbel
        go_wp2_with fail
        go_roundw
        case rel => exact ⟨k + 1, by omega, by go_num, by rw [← HS.out]; exact HR.out.set _ _, HB.out.setCell (Nat.le_refl _) _⟩
        case measure => (simp [intOf]; try omega)
      · obtain rfl : k = X.length := by omega
        have HR : Hid (RowV wr w.heap.size 9 (strV X)) := by
          have h := hrow
          rw [List.take_length, strV_len, Nat.sub_self] at h
          rw [show strV X = strV X ++ zrow (.string ⟨#[]⟩) 0 from (List.append_nil _).symm]
          exact h
        have HB := hide hbel
        clear hrow hbel hlk
        go_wp2_with fail
        go_ret
        exact ⟨some ⟨w.heap.size, 0, none⟩, rfl, by simp, fun ad h => by (cases h; exact ⟨rfl, HR.out⟩), HB.out⟩

set_option maxHeartbeats 400000 in
theorem F15 (a : Option Addr) (c lo hi : Nat) (X : List Int) (w : World) (hX : CellsIn w lo hi a (izV X)) (b1 : hi ≤ w.heap.size) (n1 : X.length ≤ 200000) :
    Calls Try.prog 15 #[.slice a X.length c] w fun e w' => ∃ a', e = .returned (.slice a' X.length X.length) ∧ (a' = none ↔ a = none) ∧ (∀ ad, a' = some ad → ad = ⟨w.heap.size, 0, none⟩ ∧ RowV w' w.heap.size 3 (izV X)) ∧ Below w.heap.size w w' := by
  have hnl := fun (wx : World) (a : Option Addr) (n c : Nat) => Lib.run_eql_slice_nil (P := Try.prog) wx 29 3 a n c 0 0 Try.underlying29
  have hmk := make_run 29 3 (.int .i64 0) 8 Try.underlying29 Try.info3 rfl X.length (by omega) (by omega)
  cases a with
  | none =>
    obtain rfl := izV_nil X (nil_of_none hX)
    clear hX hmk
    go_enter Try.func15, Try.ntmps15
    go_wp2
    go_ret
    exact ⟨none, rfl, by simp, fun ad h => by (cases h), Below.refl _ _⟩
  | some ad0 =>
    have HX := hide hX
    clear hX
    go_enter Try.func15, Try.ntmps15
    go_wp2
    go_loopw [4] (fun i wr => ∃ k : Nat, k ≤ X.length ∧ i = .int .i64 k ∧ RowV wr w.heap.size 3 (izV (X.take k) ++ zrow (.int .i64 0) (X.length - (izV (X.take k)).length)) ∧ Below w.heap.size w wr) (fun i _ => X.length - (intOf i).toNat)
    case atStart => exact ⟨0, Nat.zero_le _, rfl, RowV.fresh w 3 (zrow (.int .i64 0) X.length), (Below.refl _ _).alloc (Nat.le_refl _) _⟩
    case round =>
      obtain ⟨k, hk, rfl, hrow, hbel⟩ := hrel
      have hlk : (izV (X.take k)).length = k := by rw [izV_len, len_take X k hk]
      by_cases hlt : k < X.length
      · obtain ⟨x, hx⟩ := at_some X k hlt
        obtain ⟨g, o, hado, _, _, hcx⟩ := (HX.out.below hbel b1) k _ (izV_get X k x hx)
        cases hado
        have hc := hrow.cell k _ (by have := fill_get (izV (X.take k)) (.int .i64 0) X.length (by omega); rwa [hlk] at this ⊢)
        have hf := hrow.frozen k
        have HS : Hid ((izV (X.take k) ++ zrow (.int .i64 0) (X.length - (izV (X.take k)).length)).set k (.int .i64 x) = izV (X.take (k + 1)) ++ zrow (.int .i64 0) (X.length - (izV (X.take (k + 1))).length)) := by
          have h := fill_set (izV (X.take k)) (.int .i64 0) (.int .i64 x) X.length (by omega)
          rw [izV_snoc, ← take_at X k x hx] at h
          rw [show (izV (X.take k)).length = k from hlk] at h ⊢
          exact h
        have HR := hide hrow
        have HB := hide hbel
        clear hx hlk hrow hbel
        go_wp2_with fail
        go_roundw
        case rel => exact ⟨k + 1, by omega, by go_num, by rw [← HS.out]; exact HR.out.set _ _, HB.out.setCell (Nat.le_refl _) _⟩
        case measure => (simp [intOf]; try omega)
      · obtain rfl : k = X.length := by omega
        have HR : Hid (RowV wr w.heap.size 3 (izV X)) := by
          have h := hrow
          rw [List.take_length, izV_len, Nat.sub_self] at h
          rw [show izV X = izV X ++ zrow (.int .i64 0) 0 from (List.append_nil _).symm]
          exact h
        have HB := hide hbel
        clear hrow hbel hlk
        go_wp2_with fail
        go_ret
        exact ⟨some ⟨w.heap.size, 0, none⟩, rfl, by simp, fun ad h => by (cases h; exact ⟨rfl, HR.out⟩), HB.out⟩

end Go.Proofs.Qxb6000844a
