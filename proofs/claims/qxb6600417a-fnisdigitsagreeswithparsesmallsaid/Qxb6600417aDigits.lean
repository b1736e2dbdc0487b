/-
  isDigits and its alias: what they answer, for every text up to 2,000,000 bytes.
-/
import Derived.Test.Qxb6600417aSmall
namespace Go.Proofs.Qxb6600417a
open Go.ChangeShapes Go.WideShapes Go.ChangeAt Go.RowKit

theorem ret_bool {a b : Bool} (h : a = b) : Ending.returned (.bool a) = .returned (.bool b) := by rw [h]
theorem isD_lo (c : UInt8) (h : (c.toNat : Int) < 48) : Pl.isD c = false := by unfold Pl.isD; simp; omega
theorem isD_hi (c : UInt8) (h : 57 < (c.toNat : Int)) : Pl.isD c = false := by unfold Pl.isD; simp; omega
theorem isD_mid (c : UInt8) (h : 48 ≤ (c.toNat : Int)) (h' : (c.toNat : Int) ≤ 57) : Pl.isD c = true := by unfold Pl.isD; simp; omega

set_option maxHeartbeats 400000 in
theorem F19 (s : ByteArray) (w : World) (hs : s.size ≤ 2000000) :
    Calls Try.prog 19 #[.string s] w fun e w' => e = .returned (.bool (Pl.isDg s.data.toList)) ∧ w' = w := by
  cases hem : s.toList.isEmpty with
  | true =>
    go_enter Try.func19, Try.ntmps19
    go_wp2
    go_ret
    refine ⟨ret_bool ?_, rfl⟩
    rw [ByteArray.toList_eq] at hem
    unfold Pl.isDg; rw [hem]; rfl
  | false =>
    have HNE : Hid (Pl.isDg s.data.toList = s.data.toList.all Pl.isD) := by
      rw [ByteArray.toList_eq] at hem
      unfold Pl.isDg; rw [hem]; rfl
    go_enter Try.func19, Try.ntmps19
    go_wp2
    go_loop [3] (fun i => ∃ k : Nat, k ≤ s.size ∧ i = .int .i64 k ∧ (s.data.toList.take k).all Pl.isD = true) (fun i => s.size - (intOf i).toNat)
    case atStart => exact ⟨0, Nat.zero_le _, rfl, rfl⟩
    case round =>
      obtain ⟨k, hk, rfl, hall⟩ := hrel
      have HA : Hid ((s.data.toList.take k).all Pl.isD = true) := hall
      clear hall
      by_cases hlt : k < s.size
      · have HG : Hid (s.data.toList[k]? = some s[k]) := getq s k hlt
        by_cases h1 : (s[k].toNat : Int) < 48
        · go_wp2
          go_ret
          exact ⟨ret_bool (by rw [HNE.out, Pl.all_false_of _ _ k _ HG.out (isD_lo _ h1)]), rfl⟩
        by_cases h2 : 57 < (s[k].toNat : Int)
        · go_wp2
          go_ret
          exact ⟨ret_bool (by rw [HNE.out, Pl.all_false_of _ _ k _ HG.out (isD_hi _ h2)]), rfl⟩
        go_wp2
        go_round
        case rel => exact ⟨k + 1, by omega, by go_num, Pl.all_snoc _ k _ HA.out HG.out (isD_mid _ (by omega) (by omega))⟩
        case measure => simp [intOf]; omega
      · go_wp2
        go_ret
        refine ⟨ret_bool ?_, rfl⟩
        have h := HA.out
        rw [List.take_of_length_le (by rw [len_size]; omega)] at h
        rw [HNE.out, h]
theorem F14 (s : ByteArray) (w : World) (hs : s.size ≤ 2000000) :
    Calls Try.prog 14 #[.string s] w fun e w' => e = .returned (.bool (Pl.isDg s.data.toList)) ∧ w' = w := by
  go_enter Try.func14, Try.ntmps14
  go_wp2_with (go_at_call 19; refine (F19 s _ hs).mono ?_; rintro e w' ⟨rfl, rfl⟩)
  go_ret
  exact ⟨rfl, rfl⟩
end Go.Proofs.Qxb6600417a
