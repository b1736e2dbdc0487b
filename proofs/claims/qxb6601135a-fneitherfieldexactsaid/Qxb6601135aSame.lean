/-
  efSameS, efSameB, efSameW, slices.Equal: what they answer.
-/
import Derived.Test.Qxb6601135aEMem
namespace Go.Proofs.Qxb6601135a
open Go.ChangeShapes Go.WideShapes Go.ChangeAt Go.RowKit
set_option linter.unusedVariables false

set_option maxHeartbeats 400000 in
theorem F24 (a1 a2 : Option Addr) (c1 c2 l1 h1 l2 h2 : Nat) (X Y : List ByteArray) (w : World) (hX : CellsIn w l1 h1 a1 (strV X)) (hY : CellsIn w l2 h2 a2 (strV Y)) (b1 : h1 ≤ w.heap.size) (b2 : h2 ≤ w.heap.size)
    (n1 : X.length ≤ 200000) (n2 : Y.length ≤ 200000) :
    Calls Try.prog 24 #[.slice a1 X.length c1, .slice a2 Y.length c2] w fun e w' => e = .returned (.bool (decide (X = Y))) ∧ Below w.heap.size w w' := by
  have HX := hide hX
  have HY := hide hY
  clear hX hY
  by_cases hl : X.length = Y.length
  case neg =>
    have hb : ((X.length : Int) != (Y.length : Int)) = true := by simp; omega
    go_enter Try.func24, Try.ntmps24
    go_wp2
    go_ret
    exact ⟨ret_bool (decide_eq_false (fun h => hl (by rw [h]))).symm, Below.refl _ _⟩
  case pos =>
  have hb : ((X.length : Int) != (Y.length : Int)) = false := by simp; omega
  have HL := hide hl
  have hle : X.length ≤ Y.length := by omega
  clear hl
  go_enter Try.func24, Try.ntmps24
  go_wp2
  go_loopw [5] (fun i wr => ∃ k : Nat, k ≤ X.length ∧ i = .int .i64 k ∧ X.take k = Y.take k ∧ Below w.heap.size w wr) (fun i _ => X.length - (intOf i).toNat)
  case atStart => exact ⟨0, Nat.zero_le _, rfl, rfl, Below.refl _ _⟩
  case round =>
    obtain ⟨k, hk, rfl, htk, hbel⟩ := hrel
    have HT := hide htk
    have HB := hide hbel
    clear htk hbel
    by_cases hlt : k < X.length
    · obtain ⟨x, hx⟩ := at_some X k hlt
      obtain ⟨y, hy⟩ := at_some Y k (by rw [← HL.out]; exact hlt)
      obtain ⟨g, o, rfl, _, _, hcx⟩ := (HX.out.below HB.out b1) k _ (strV_get X k x hx)
      obtain ⟨g', o', rfl, _, _, hcy⟩ := (HY.out.below HB.out b2) k _ (strV_get Y k y hy)
      have hly : (k : Int) < (Y.length : Int) := by omega
      by_cases hxy : x = y
      · subst hxy
        have HGX := hide hx
        have HGY := hide hy
        clear hx hy
        go_wp2_with fail
        go_quiet (fail)
        go_wp2_with fail
        go_roundw
        case rel => exact ⟨k + 1, by omega, by go_num, take_same X Y k _ _ HT.out HGX.out HGY.out rfl, below_drewN HB.out _⟩
        case measure => (simp [intOf]; try omega)
      · have HNE := hide (ne_at X Y k x y hx hy hxy)
        have hne : (x.toList == y.toList) = false := by simp [toList_eq_iff, hxy]
        clear hx hy hxy
        go_wp2_with fail
        go_quiet (fail)
        go_wp2_with fail
        go_ret
        exact ⟨ret_bool (decide_eq_false HNE.out).symm, below_drewN HB.out _⟩
    · go_wp2_with fail
      go_ret
      have h := HT.out
      rw [List.take_of_length_le (by omega), List.take_of_length_le (by rw [← HL.out]; omega)] at h
      exact ⟨ret_bool (decide_eq_true h).symm, HB.out⟩

set_option maxHeartbeats 400000 in
theorem F38 (a1 a2 : Option Addr) (c1 c2 l1 h1 l2 h2 : Nat) (X Y : List ByteArray) (w : World) (hX : CellsIn w l1 h1 a1 (strV X)) (hY : CellsIn w l2 h2 a2 (strV Y)) (b1 : h1 ≤ w.heap.size) (b2 : h2 ≤ w.heap.size)
    (n1 : X.length ≤ 200000) (n2 : Y.length ≤ 200000) :
    Calls Try.prog 38 #[.slice a1 X.length c1, .slice a2 Y.length c2] w fun e w' => e = .returned (.bool (decide (X = Y))) ∧ Below w.heap.size w w' := by
  have HX := hide hX
  have HY := hide hY
  clear hX hY
  by_cases hl : X.length = Y.length
  case neg =>
    have hb : ((X.length : Int) != (Y.length : Int)) = true := by simp; omega
    go_enter Try.func38, Try.ntmps38
    go_wp2
    go_ret
    exact ⟨ret_bool (decide_eq_false (fun h => hl (by rw [h]))).symm, Below.refl _ _⟩
  case pos =>
  have hb : ((X.length : Int) != (Y.length : Int)) = false := by simp; omega
  have HL := hide hl
  have hle : X.length ≤ Y.length := by omega
  clear hl
  go_enter Try.func38, Try.ntmps38
  go_wp2
  go_loopw [13] (fun i wr => ∃ k : Nat, k ≤ X.length ∧ i = .int .i64 k ∧ X.take k = Y.take k ∧ Below w.heap.size w wr) (fun i _ => X.length - (intOf i).toNat)
  case atStart => exact ⟨0, Nat.zero_le _, rfl, rfl, Below.refl _ _⟩
  case round =>
    obtain ⟨k, hk, rfl, htk, hbel⟩ := hrel
    have HT := hide htk
    have HB := hide hbel
    clear htk hbel
    by_cases hlt : k < X.length
    · obtain ⟨x, hx⟩ := at_some X k hlt
      obtain ⟨y, hy⟩ := at_some Y k (by rw [← HL.out]; exact hlt)
      obtain ⟨g, o, rfl, _, _, hcx⟩ := (HX.out.below HB.out b1) k _ (strV_get X k x hx)
      obtain ⟨g', o', rfl, _, _, hcy⟩ := (HY.out.below HB.out b2) k _ (strV_get Y k y hy)
      have hly : (k : Int) < (Y.length : Int) := by omega
      by_cases hxy : x = y
      · subst hxy
        have HGX := hide hx
        have HGY := hide hy
        clear hx hy
        go_wp2_with fail
        go_quiet (fail)
        go_wp2_with fail
        go_roundw
        case rel => exact ⟨k + 1, by omega, by go_num, take_same X Y k _ _ HT.out HGX.out HGY.out rfl, below_drewN HB.out _⟩
        case measure => (simp [intOf]; try omega)
      · have HNE := hide (ne_at X Y k x y hx hy hxy)
        have hne : (x.toList == y.toList) = false := by simp [toList_eq_iff, hxy]
        clear hx hy hxy
        go_wp2_with fail
        go_quiet (fail)
        go_wp2_with fail
        go_ret
        exact ⟨ret_bool (decide_eq_false HNE.out).symm, below_drewN HB.out _⟩
    · go_wp2_with fail
      go_ret
      have h := HT.out
      rw [List.take_of_length_le (by omega), List.take_of_length_le (by rw [← HL.out]; omega)] at h
      exact ⟨ret_bool (decide_eq_true h).symm, HB.out⟩

set_option maxHeartbeats 400000 in
theorem F27 (a1 a2 : Option Addr) (c1 c2 l1 h1 l2 h2 : Nat) (X Y : List Bool) (w : World) (hX : CellsIn w l1 h1 a1 (blV X)) (hY : CellsIn w l2 h2 a2 (blV Y)) (b1 : h1 ≤ w.heap.size) (b2 : h2 ≤ w.heap.size)
    (n1 : X.length ≤ 200000) (n2 : Y.length ≤ 200000) :
    Calls Try.prog 27 #[.slice a1 X.length c1, .slice a2 Y.length c2] w fun e w' => e = .returned (.bool (decide (X = Y))) ∧ Below w.heap.size w w' := by
  have HX := hide hX
  have HY := hide hY
  clear hX hY
  by_cases hl : X.length = Y.length
  case neg =>
    have hb : ((X.length : Int) != (Y.length : Int)) = true := by simp; omega
    go_enter Try.func27, Try.ntmps27
    go_wp2
    go_ret
    exact ⟨ret_bool (decide_eq_false (fun h => hl (by rw [h]))).symm, Below.refl _ _⟩
  case pos =>
  have hb : ((X.length : Int) != (Y.length : Int)) = false := by simp; omega
  have HL := hide hl
  have hle : X.length ≤ Y.length := by omega
  clear hl
  go_enter Try.func27, Try.ntmps27
  go_wp2
  go_loopw [5] (fun i wr => ∃ k : Nat, k ≤ X.length ∧ i = .int .i64 k ∧ X.take k = Y.take k ∧ Below w.heap.size w wr) (fun i _ => X.length - (intOf i).toNat)
  case atStart => exact ⟨0, Nat.zero_le _, rfl, rfl, Below.refl _ _⟩
  case round =>
    obtain ⟨k, hk, rfl, htk, hbel⟩ := hrel
    have HT := hide htk
    have HB := hide hbel
    clear htk hbel
    by_cases hlt : k < X.length
    · obtain ⟨x, hx⟩ := at_some X k hlt
      obtain ⟨y, hy⟩ := at_some Y k (by rw [← HL.out]; exact hlt)
      obtain ⟨g, o, rfl, _, _, hcx⟩ := (HX.out.below HB.out b1) k _ (blV_get X k x hx)
      obtain ⟨g', o', rfl, _, _, hcy⟩ := (HY.out.below HB.out b2) k _ (blV_get Y k y hy)
      have hly : (k : Int) < (Y.length : Int) := by omega
      by_cases hxy : x = y
      · subst hxy
        have HGX := hide hx
        have HGY := hide hy
        clear hx hy
        go_wp2_with fail
        go_quiet (fail)
        go_wp2_with fail
        go_roundw
        case rel => exact ⟨k + 1, by omega, by go_num, take_same X Y k _ _ HT.out HGX.out HGY.out rfl, below_drewN HB.out _⟩
        case measure => (simp [intOf]; try omega)
      · have HNE := hide (ne_at X Y k x y hx hy hxy)
        obtain rfl : y = !x := by cases x <;> cases y <;> simp_all
        cases x
        all_goals
          clear hx hy hxy
          go_wp2_with fail
          go_quiet (fail)
          go_wp2_with fail
          go_ret
          exact ⟨ret_bool (decide_eq_false HNE.out).symm, below_drewN HB.out _⟩
    · go_wp2_with fail
      go_ret
      have h := HT.out
      rw [List.take_of_length_le (by omega), List.take_of_length_le (by rw [← HL.out]; omega)] at h
      exact ⟨ret_bool (decide_eq_true h).symm, HB.out⟩

set_option maxHeartbeats 400000 in
theorem F28 (a1 a2 : Option Addr) (c1 c2 l1 h1 l2 h2 : Nat) (X Y : List Nat) (w : World) (hX : CellsIn w l1 h1 a1 (wdV X)) (hY : CellsIn w l2 h2 a2 (wdV Y)) (b1 : h1 ≤ w.heap.size) (b2 : h2 ≤ w.heap.size)
    (n1 : X.length ≤ 200000) (n2 : Y.length ≤ 200000) :
    Calls Try.prog 28 #[.slice a1 X.length c1, .slice a2 Y.length c2] w fun e w' => e = .returned (.bool (decide (X = Y))) ∧ Below w.heap.size w w' := by
  have HX := hide hX
  have HY := hide hY
  clear hX hY
  by_cases hl : X.length = Y.length
  case neg =>
    have hb : ((X.length : Int) != (Y.length : Int)) = true := by simp; omega
    go_enter Try.func28, Try.ntmps28
    go_wp2
    go_ret
    exact ⟨ret_bool (decide_eq_false (fun h => hl (by rw [h]))).symm, Below.refl _ _⟩
  case pos =>
  have hb : ((X.length : Int) != (Y.length : Int)) = false := by simp; omega
  have HL := hide hl
  have hle : X.length ≤ Y.length := by omega
  clear hl
  go_enter Try.func28, Try.ntmps28
  go_wp2
  go_loopw [5] (fun i wr => ∃ k : Nat, k ≤ X.length ∧ i = .int .i64 k ∧ X.take k = Y.take k ∧ Below w.heap.size w wr) (fun i _ => X.length - (intOf i).toNat)
  case atStart => exact ⟨0, Nat.zero_le _, rfl, rfl, Below.refl _ _⟩
  case round =>
    obtain ⟨k, hk, rfl, htk, hbel⟩ := hrel
    have HT := hide htk
    have HB := hide hbel
    clear htk hbel
    by_cases hlt : k < X.length
    · obtain ⟨x, hx⟩ := at_some X k hlt
      obtain ⟨y, hy⟩ := at_some Y k (by rw [← HL.out]; exact hlt)
      obtain ⟨g, o, rfl, _, _, hcx⟩ := (HX.out.below HB.out b1) k _ (wdV_get X k x hx)
      obtain ⟨g', o', rfl, _, _, hcy⟩ := (HY.out.below HB.out b2) k _ (wdV_get Y k y hy)
      have hly : (k : Int) < (Y.length : Int) := by omega
      by_cases hxy : x = y
      · subst hxy
        have HGX := hide hx
        have HGY := hide hy
        clear hx hy
        go_wp2_with fail
        go_quiet (fail)
        go_wp2_with fail
        go_roundw
        case rel => exact ⟨k + 1, by omega, by go_num, take_same X Y k _ _ HT.out HGX.out HGY.out rfl, below_drewN HB.out _⟩
        case measure => (simp [intOf]; try omega)
      · have HNE := hide (ne_at X Y k x y hx hy hxy)
        have hne : ((x : Int) != (y : Int)) = true := by simp; omega
        clear hx hy hxy
        go_wp2_with fail
        go_quiet (fail)
        go_wp2_with fail
        go_ret
        exact ⟨ret_bool (decide_eq_false HNE.out).symm, below_drewN HB.out _⟩
    · go_wp2_with fail
      go_ret
      have h := HT.out
      rw [List.take_of_length_le (by omega), List.take_of_length_le (by rw [← HL.out]; omega)] at h
      exact ⟨ret_bool (decide_eq_true h).symm, HB.out⟩
end Go.Proofs.Qxb6601135a
