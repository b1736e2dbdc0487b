/-
  parseSmall and its alias: what they answer, for every text up to 2,000,000 bytes and every places up to 65,536.
-/
import Derived.Test.Qxb6600417aRows
import Derived.Test.Qxb6600417aPlain
import Derived.WalkKit
import Derived.ProofKit
import Derived.OpenShut
import Derived.ShutString
import Derived.WalkLawsBesides
import Derived.WalkSpells
import Derived.Handy
namespace Go.Proofs.Qxb6600417a
open Go.ChangeShapes Go.WideShapes Go.ChangeAt Go.RowKit

theorem getq (s : ByteArray) (k : Nat) (h : k < s.size) : s.data.toList[k]? = some s[k] := by
  simp [ByteArray.getElem_eq_getElem_data]
theorem len_size (s : ByteArray) : s.data.toList.length = s.size := by rw [Array.length_toList]; rfl

theorem ret_no (l : List UInt8) (p : Nat) (h : Pl.okp l p = false) :
    Ending.returned (.tuple #[.int .i64 0, .bool false]) = .returned (.tuple #[.int .i64 (Pl.psV l p), .bool (Pl.okp l p)]) := by
  rw [Pl.psV_no l p h, h]
theorem ret_yes (l : List UInt8) (p : Nat) (x : Int) (h : Pl.okp l p = true) (hx : x = Pl.pv l p p) :
    Ending.returned (.tuple #[.int .i64 x, .bool true]) = .returned (.tuple #[.int .i64 (Pl.psV l p), .bool (Pl.okp l p)]) := by
  rw [Pl.psV_yes l p h, h, hx]

theorem ext_data (s : ByteArray) (a b : Nat) : (s.extract a b).data.toList = (s.data.toList.drop a).take (b - a) := by
  obtain ⟨⟨l⟩⟩ := s
  rw [ByteArray.extract_mk]
theorem ext_end (s : ByteArray) (a : Nat) : (s.extract a s.size).data.toList = s.data.toList.drop a := by
  rw [ext_data, List.take_of_length_le]
  rw [List.length_drop, len_size]
  exact Nat.le_refl _

theorem bne46_true (c : UInt8) (h : ((c.toNat : Int) != 46) = true) : c.toNat ≠ 46 := by
  simp at h; omega
theorem bne46_false (c : UInt8) (h : ((c.toNat : Int) != 46) = false) : c.toNat = 46 := by
  simp at h; omega

set_option maxHeartbeats 1000000 in
theorem F18 (s : ByteArray) (p : Nat) (w : World) (hs : s.size ≤ 2000000) (hp : p ≤ 65536) :
    Calls Try.prog 18 #[.string s, .int .i64 p] w fun e w' => e = .returned (.tuple #[.int .i64 (Pl.psV s.data.toList p), .bool (Pl.okp s.data.toList p)]) ∧ w' = w := by
  go_enter Try.func18, Try.ntmps18
  go_wp2
  go_loop [6, 7] (fun n i => ∃ (k : Nat) (x : Int), k ≤ s.size ∧ i = .int .i64 k ∧ n = .int .i64 x ∧ (s.data.toList.take k).all Pl.isD = true ∧ (k ≤ 18 → x = Pl.val (s.data.toList.take k))) (fun _ i => s.size - (intOf i).toNat)
  case atStart => exact ⟨0, 0, Nat.zero_le _, rfl, rfl, rfl, fun _ => rfl⟩
  case round =>
    obtain ⟨k, x, hk, rfl, rfl, hall, hx⟩ := hrel
    have HX : Hid (k ≤ 18 → x = Pl.val (s.data.toList.take k)) := hx
    have HA : Hid ((s.data.toList.take k).all Pl.isD = true) := hall
    clear hx hall
    by_cases hlt : k < s.size
    · have HG : Hid (s.data.toList[k]? = some s[k]) := getq s k hlt
      have HL : Hid (s.data.toList.length = s.size) := len_size s
      go_wp2
      · go_ret2
        exact ⟨ret_no _ _ (Pl.bad_at _ k p s[k] HA.out HG.out (bne46_true _ ‹_›) (Pl.isD_not _ ‹_›)), rfl⟩
      · have h46 : s[k].toNat ≠ 46 := bne46_true _ ‹_›
        have hd : Pl.isD s[k] = true := Pl.isD_of _ ‹_›
        go_round
        case rel =>
          refine ⟨k + 1, _, by omega, by go_num, rfl, Pl.all_snoc _ k _ HA.out HG.out hd, fun h18 => ?_⟩
          have hx := HX.out (by omega)
          have hb := Pl.val_lt17 _ HA.out (by rw [List.length_take]; omega)
          have hdb := Pl.dv_bd _ hd
          rw [Pl.val_take _ k _ HG.out, ← hx]
          unfold Pl.dv at *
          rw [hx.symm] at hb
          unfold wrap64
          omega
        case measure => simp [intOf]; omega
      all_goals have h46 : s[k].toNat = 46 := bne46_false _ ‹_›
      all_goals have H46 : Hid (∀ c, s.data.toList[k]? = some c → c.toNat = 46) := fun c hc => by rw [HG.out] at hc; cases hc; exact h46
      all_goals clear h46
      · go_ret2
        subst_vars
        exact ⟨ret_no _ _ (Pl.okp_zero _ _ H46.out), rfl⟩
      · go_ret2
        refine ⟨ret_no _ _ (Pl.okp_long _ k _ ?_ HA.out H46.out ?_), rfl⟩
        · rw [HL.out]; omega
        · rename_i h _
          simp at h
          omega
      · go_ret2
        have hc := Pl.cut_at _ k HA.out H46.out
        have hkl : k < s.data.toList.length := by rw [HL.out]; exact hlt
        refine ⟨ret_no _ _ ?_, rfl⟩
        have he : (s.extract (k + 1) s.size).toList.isEmpty = true := by assumption
        rw [ByteArray.toList_eq, ext_end, ← hc.2.2] at he
        rw [Pl.okp_dot _ k p hkl HA.out H46.out (by assumption) (by omega), he]
        rfl
      · have hc := Pl.cut_at _ k HA.out H46.out
        have hkl : k < s.data.toList.length := by rw [HL.out]; exact hlt
        have h18 : k + p ≤ 18 := by omega
        have hne : (s.extract (k + 1) s.size).toList.isEmpty = false := by assumption
        have hf := ext_end s (k + 1)
        have hfs := len_size (s.extract (k + 1) s.size)
        have HOK : Hid (Pl.okp s.data.toList p = (!(Pl.frac s.data.toList).isEmpty && (Pl.frac s.data.toList).all Pl.isD && Pl.zs ((Pl.frac s.data.toList).drop p))) := Pl.okp_dot _ k p hkl HA.out H46.out (by assumption) h18
        have HW : Hid ((Pl.whole s.data.toList).all Pl.isD = true) := by rw [hc.1]; exact HA.out
        have HWL : Hid ((Pl.whole s.data.toList).length = k) := by rw [hc.1, List.length_take]; show min _ _ = _; omega
        have HY : Hid (x = Pl.pv s.data.toList p 0) := by rw [Pl.pv_zero, hc.1]; exact HX.out (by omega)
        have HNE : Hid ((Pl.frac s.data.toList).isEmpty = false) := by rw [hc.2.2, ← hf, ← ByteArray.toList_eq]; exact hne
        have HF : Hid (Pl.frac s.data.toList = (s.extract (k + 1) s.size).data.toList) := hc.2.2.trans hf.symm
        have hsz : (s.extract (k + 1) s.size).size ≤ 2000000 := by
          rw [← hfs, hf, List.length_drop, HL.out]; omega
        clear hc hf hfs hne hkl
        generalize s.extract (k + 1) s.size = f at *
        go_loop [6, 9, 11] (fun n sc i => ∃ (j q : Nat) (y : Int), j ≤ f.size ∧ i = .int .i64 j ∧ q ≤ p ∧ q ≤ j ∧ (j ≤ q ∨ p ≤ q) ∧ sc = .int .i64 q ∧ n = .int .i64 y ∧ y = Pl.pv s.data.toList p q ∧ ((Pl.pad s.data.toList p).take q).all Pl.isD = true ∧ ((Pl.frac s.data.toList).take j).all Pl.isD = true ∧ Pl.zs (((Pl.frac s.data.toList).take j).drop p) = true) (fun _ _ i => f.size - (intOf i).toNat)
        case atStart => exact ⟨0, 0, x, Nat.zero_le _, rfl, Nat.zero_le _, Nat.le_refl _, Or.inl (Nat.le_refl _), rfl, rfl, HY.out, rfl, rfl, by simp [Pl.zs]⟩
        case round =>
          obtain ⟨j, q, y, hj, rfl, hqp, hqj, hjq, rfl, rfl, hy, hpad, hfj, hzj⟩ := hrel
          have HY2 : Hid (y = Pl.pv s.data.toList p q) := hy
          have HP : Hid (((Pl.pad s.data.toList p).take q).all Pl.isD = true) := hpad
          have HFJ : Hid (((Pl.frac s.data.toList).take j).all Pl.isD = true) := hfj
          have HZ : Hid (Pl.zs (((Pl.frac s.data.toList).take j).drop p) = true) := hzj
          clear hy hpad hfj hzj
          by_cases hjl : j < f.size
          · have HG2 : Hid ((Pl.frac s.data.toList)[j]? = some f[j]) := by rw [HF.out]; exact getq f j hjl
            by_cases hq : q < p
            · go_wp2
              · go_ret2
                exact ⟨ret_no _ _ (by rw [HOK.out, Pl.all_false_of _ _ j _ HG2.out (Pl.isD_not _ ‹_›)]; simp), rfl⟩
              · have hd : Pl.isD f[j] = true := Pl.isD_of _ ‹_›
                obtain rfl : j = q := by omega
                have HG3 := Pl.pad_get _ p j _ HG2.out
                go_round
                case rel =>
                  refine ⟨j + 1, j + 1, _, by omega, by go_num, by omega, Nat.le_refl _, Or.inl (Nat.le_refl _), by go_num, rfl, ?_, Pl.all_snoc _ j _ HP.out HG3 hd, Pl.all_snoc _ j _ HFJ.out HG2.out hd, Pl.zs_snoc _ p j _ HG2.out HZ.out (fun h => by omega)⟩
                  have hb := Pl.pv_bd s.data.toList p j 17 HW.out HP.out (by rw [HWL.out]; omega)
                  have hdb := Pl.dv_bd _ hd
                  rw [Pl.pv_step _ p j _ HG3, ← HY2.out]
                  rw [← HY2.out] at hb
                  unfold Pl.dv at *
                  unfold wrap64
                  omega
                case measure => simp [intOf]; omega
            · go_wp2
              · go_ret2
                exact ⟨ret_no _ _ (by rw [HOK.out, Pl.all_false_of _ _ j _ HG2.out (Pl.isD_not _ ‹_›)]; simp), rfl⟩
              · go_ret2
                refine ⟨ret_no _ _ ?_, rfl⟩
                have hn : (((f[j].toNat : Int) - 48) % 256 != 0) = true := by assumption
                rw [HOK.out, Pl.zs_false_of _ p j _ HG2.out (by omega) (by simp at hn; omega)]
                simp
              · have hd : Pl.isD f[j] = true := Pl.isD_of _ ‹_›
                have hn : (((f[j].toNat : Int) - 48) % 256 != 0) = false := by assumption
                have h48 : f[j].toNat = 48 := by have := f[j].toNat_lt; simp at hn; omega
                go_round
                case rel =>
                  exact ⟨j + 1, q, _, by omega, by go_num, hqp, by omega, Or.inr (by omega), rfl, rfl, HY2.out, HP.out, Pl.all_snoc _ j _ HFJ.out HG2.out hd, Pl.zs_snoc _ p j _ HG2.out HZ.out (fun _ => h48)⟩
                case measure => simp [intOf]; omega
          · have hFl : (Pl.frac s.data.toList).length = f.size := by rw [HF.out]; exact len_size f
            have HOKT : Hid (Pl.okp s.data.toList p = true) := by
              have h1 := HFJ.out
              have h2 := HZ.out
              rw [List.take_of_length_le (by omega)] at h1 h2
              show _ = _
              rw [HOK.out, HNE.out, h1, h2]; rfl
            have HFS : Hid (q < p → (Pl.frac s.data.toList).length ≤ q) := fun _ => by omega
            clear hFl
            go_wp2
            go_loop [6, 9] (fun n sc => ∃ (q : Nat) (y : Int), q ≤ p ∧ sc = .int .i64 q ∧ n = .int .i64 y ∧ y = Pl.pv s.data.toList p q ∧ ((Pl.pad s.data.toList p).take q).all Pl.isD = true ∧ (q < p → (Pl.frac s.data.toList).length ≤ q)) (fun _ sc => p - (intOf sc).toNat)
            case atStart => exact ⟨q, y, hqp, rfl, rfl, HY2.out, HP.out, HFS.out⟩
            case round =>
              obtain ⟨q, y, hqp, rfl, rfl, hy, hpad, hfl⟩ := hrel
              have HY3 : Hid (y = Pl.pv s.data.toList p q) := hy
              have HP3 : Hid (((Pl.pad s.data.toList p).take q).all Pl.isD = true) := hpad
              have HFL : Hid (q < p → (Pl.frac s.data.toList).length ≤ q) := hfl
              clear hy hpad hfl
              by_cases hq : q < p
              · have HG3 : Hid ((Pl.pad s.data.toList p)[q]? = some 48) := Pl.pad_get48 _ p q (HFL.out hq) hq
                go_wp2
                go_round
                case rel =>
                  refine ⟨q + 1, _, by omega, by go_num, rfl, ?_, Pl.all_snoc _ q _ HP3.out HG3.out (by decide), fun _ => Nat.le_succ_of_le (HFL.out hq)⟩
                  have hb := Pl.pv_bd s.data.toList p q 17 HW.out HP3.out (by rw [HWL.out]; omega)
                  rw [Pl.pv_step _ p q _ HG3.out, ← HY3.out]
                  rw [← HY3.out] at hb
                  have h48 : Pl.dv 48 = 0 := by decide
                  rw [h48]
                  unfold wrap64
                  omega
                case measure => simp [intOf]; omega
              · go_wp2
                go_ret2
                obtain rfl : q = p := by omega
                exact ⟨ret_yes _ _ _ HOKT.out HY3.out, rfl⟩
    · have HL : Hid (s.data.toList.length = s.size) := len_size s
      have hkl : s.data.toList.take k = s.data.toList := List.take_of_length_le (by rw [HL.out]; omega)
      have H46 : Hid (∀ c, s.data.toList[k]? = some c → c.toNat = 46) := fun c hc => by
        rw [List.getElem?_eq_none (by rw [HL.out]; omega)] at hc; cases hc
      have HKL : Hid (s.data.toList.take k = s.data.toList) := hkl
      clear hkl
      go_wp2
      · go_ret2
        subst_vars
        exact ⟨ret_no _ _ (Pl.okp_zero _ _ H46.out), rfl⟩
      · go_ret2
        refine ⟨ret_no _ _ (Pl.okp_long _ k _ ?_ HA.out H46.out ?_), rfl⟩
        · rw [HL.out]; omega
        · rename_i h _
          simp at h
          omega
      · have h18 : k + p ≤ 18 := by omega
        have hc := Pl.cut_at _ k HA.out H46.out
        have HW : Hid ((Pl.whole s.data.toList).all Pl.isD = true) := by rw [hc.1]; exact HA.out
        have HWL : Hid ((Pl.whole s.data.toList).length = k) := by rw [hc.1, List.length_take, HL.out]; show min _ _ = _; omega
        have HY : Hid (x = Pl.pv s.data.toList p 0) := by rw [Pl.pv_zero, hc.1]; exact HX.out (by omega)
        have HF0 : Hid ((Pl.frac s.data.toList).length ≤ 0) := by rw [hc.2.2, List.length_drop, HL.out]; show _ - _ ≤ _; omega
        have HOKT : Hid (Pl.okp s.data.toList p = true) := by
          have h1 := HA.out
          rw [HKL.out] at h1
          exact Pl.okp_bare _ p h1 (by rw [HL.out]; omega) (by rw [HL.out]; omega)
        clear hc
        go_loop [6, 9] (fun n sc => ∃ (q : Nat) (y : Int), q ≤ p ∧ sc = .int .i64 q ∧ n = .int .i64 y ∧ y = Pl.pv s.data.toList p q ∧ ((Pl.pad s.data.toList p).take q).all Pl.isD = true ∧ (q < p → (Pl.frac s.data.toList).length ≤ q)) (fun _ sc => p - (intOf sc).toNat)
        case atStart => exact ⟨0, x, Nat.zero_le _, rfl, rfl, HY.out, rfl, fun _ => HF0.out⟩
        case round =>
          obtain ⟨q, y, hqp, rfl, rfl, hy, hpad, hfl⟩ := hrel
          have HY3 : Hid (y = Pl.pv s.data.toList p q) := hy
          have HP3 : Hid (((Pl.pad s.data.toList p).take q).all Pl.isD = true) := hpad
          have HFL : Hid (q < p → (Pl.frac s.data.toList).length ≤ q) := hfl
          clear hy hpad hfl
          by_cases hq : q < p
          · have HG3 : Hid ((Pl.pad s.data.toList p)[q]? = some 48) := Pl.pad_get48 _ p q (HFL.out hq) hq
            go_wp2
            go_round
            case rel =>
              refine ⟨q + 1, _, by omega, by go_num, rfl, ?_, Pl.all_snoc _ q _ HP3.out HG3.out (by decide), fun _ => Nat.le_succ_of_le (HFL.out hq)⟩
              have hb := Pl.pv_bd s.data.toList p q 17 HW.out HP3.out (by rw [HWL.out]; omega)
              rw [Pl.pv_step _ p q _ HG3.out, ← HY3.out]
              rw [← HY3.out] at hb
              have h48 : Pl.dv 48 = 0 := by decide
              rw [h48]
              unfold wrap64
              omega
            case measure => simp [intOf]; omega
          · go_wp2
            go_ret2
            obtain rfl : q = p := by omega
            exact ⟨ret_yes _ _ _ HOKT.out HY3.out, rfl⟩

theorem F10 (s : ByteArray) (p : Nat) (w : World) (hs : s.size ≤ 2000000) (hp : p ≤ 65536) :
    Calls Try.prog 10 #[.string s, .int .i64 p] w fun e w' => e = .returned (.tuple #[.int .i64 (Pl.psV s.data.toList p), .bool (Pl.okp s.data.toList p)]) ∧ w' = w := by
  go_enter Try.func10, Try.ntmps10
  go_wp2_with (go_at_call 18; refine (F18 s p _ hs hp).mono ?_; rintro e w' ⟨rfl, rfl⟩)
  go_ret2
  exact ⟨rfl, rfl⟩
end Go.Proofs.Qxb6600417a
