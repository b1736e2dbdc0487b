/-
  digitValue_money_b1 and allDigitsByTable_money_b1: what they answer.
-/
import Derived.Test.Qxb6600417aSmall
namespace Go.Proofs.Qxb6600417a
open Go.ChangeShapes Go.WideShapes Go.ChangeAt Go.RowKit

theorem ret_b {a b : Bool} (h : a = b) : Ending.returned (.bool a) = .returned (.bool b) := by rw [h]
theorem ret_dig {c : UInt8} {x : Int} {b : Bool} (hx : x = Pl.dval c) (hb : b = Pl.isD c) :
    Ending.returned (.tuple #[.int .i64 x, .bool b]) = .returned (.tuple #[.int .i64 (Pl.dval c), .bool (Pl.isD c)]) := by rw [hx, hb]
theorem dig_yes (c : UInt8) (n : Nat) (hn : n ≤ 9) (h : ((c.toNat : Int) == (48 + n : Int)) = true) : (n : Int) = Pl.dval c ∧ true = Pl.isD c := by
  have h' : c.toNat = 48 + n := by simp at h; omega
  have hd : Pl.isD c = true := by unfold Pl.isD; simp; omega
  refine ⟨?_, hd.symm⟩
  rw [Pl.dval_yes c hd]; unfold Pl.dv; omega

set_option maxHeartbeats 400000 in
theorem F17 (c : UInt8) (w : World) :
    Calls Try.prog 17 #[.int .u8 (c.toNat : Int)] w fun e w' => e = .returned (.tuple #[.int .i64 (Pl.dval c), .bool (Pl.isD c)]) ∧ w' = w := by
  go_enter Try.func17, Try.ntmps17
  go_wp2
  · go_ret2; exact ⟨ret_dig (dig_yes c 0 (by omega) ‹_›).1 (dig_yes c 0 (by omega) ‹_›).2, rfl⟩
  · go_ret2; exact ⟨ret_dig (dig_yes c 1 (by omega) ‹_›).1 (dig_yes c 1 (by omega) ‹_›).2, rfl⟩
  · go_ret2; exact ⟨ret_dig (dig_yes c 2 (by omega) ‹_›).1 (dig_yes c 2 (by omega) ‹_›).2, rfl⟩
  · go_ret2; exact ⟨ret_dig (dig_yes c 3 (by omega) ‹_›).1 (dig_yes c 3 (by omega) ‹_›).2, rfl⟩
  · go_ret2; exact ⟨ret_dig (dig_yes c 4 (by omega) ‹_›).1 (dig_yes c 4 (by omega) ‹_›).2, rfl⟩
  · go_ret2; exact ⟨ret_dig (dig_yes c 5 (by omega) ‹_›).1 (dig_yes c 5 (by omega) ‹_›).2, rfl⟩
  · go_ret2; exact ⟨ret_dig (dig_yes c 6 (by omega) ‹_›).1 (dig_yes c 6 (by omega) ‹_›).2, rfl⟩
  · go_ret2; exact ⟨ret_dig (dig_yes c 7 (by omega) ‹_›).1 (dig_yes c 7 (by omega) ‹_›).2, rfl⟩
  · go_ret2; exact ⟨ret_dig (dig_yes c 8 (by omega) ‹_›).1 (dig_yes c 8 (by omega) ‹_›).2, rfl⟩
  · go_ret2; exact ⟨ret_dig (dig_yes c 9 (by omega) ‹_›).1 (dig_yes c 9 (by omega) ‹_›).2, rfl⟩
  · go_ret2
    have hd : Pl.isD c = false := by
      simp only [beq_eq_false_iff_ne, ne_eq] at *
      unfold Pl.isD; simp; omega
    exact ⟨ret_dig (Pl.dval_no c hd).symm hd.symm, rfl⟩

set_option maxHeartbeats 400000 in
theorem F16 (s : ByteArray) (w : World) (hs : s.size ≤ 2000000) :
    Calls Try.prog 16 #[.string s] w fun e w' => e = .returned (.bool (Pl.allD s.data.toList)) ∧ w' = w := by
  go_enter Try.func16, Try.ntmps16
  go_wp2
  go_loop [3] (fun i => ∃ k : Nat, k ≤ s.size ∧ i = .int .i64 k ∧ (s.data.toList.take k).all Pl.isD = true) (fun i => s.size - (intOf i).toNat)
  case atStart => exact ⟨0, Nat.zero_le _, rfl, rfl⟩
  case round =>
    obtain ⟨k, hk, rfl, hall⟩ := hrel
    have HA : Hid ((s.data.toList.take k).all Pl.isD = true) := hall
    clear hall
    by_cases hlt : k < s.size
    · have HG : Hid (s.data.toList[k]? = some s[k]) := getq s k hlt
      go_wp2_with fail
      refine (F17 s[k] _).mono ?_
      rintro _ _ ⟨rfl, rfl⟩
      cases hd : Pl.isD s[k] with
      | true =>
        have HD : Hid (Pl.isD s[k] = true) := hd
        clear hd
        go_wp2
        go_round
        case rel => exact ⟨k + 1, by omega, by go_num, Pl.all_snoc _ k _ HA.out HG.out HD.out⟩
        case measure => simp [intOf]; omega
      | false =>
        have HD : Hid (Pl.isD s[k] = false) := hd
        clear hd
        go_wp2
        go_ret
        exact ⟨ret_b (Pl.all_false_of _ Pl.isD k _ HG.out HD.out).symm, rfl⟩
    · go_wp2
      go_ret
      have h := HA.out
      rw [List.take_of_length_le (by rw [len_size]; omega)] at h
      exact ⟨ret_b h.symm, rfl⟩
end Go.Proofs.Qxb6600417a
