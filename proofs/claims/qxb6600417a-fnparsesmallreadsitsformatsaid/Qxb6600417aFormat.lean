/-
  formatScaled_money_b1: the text that it writes.
-/
import Derived.Test.Qxb6600417aRow
namespace Go.Proofs.Qxb6600417a
open Go.ChangeShapes Go.WideShapes Go.ChangeAt Go.RowKit

theorem getD_some (l : List UInt8) (i : Nat) (h : i < l.length) : l[i]? = some (l.getD i 0) := by
  rw [List.getD_eq_getElem?_getD, List.getElem?_eq_getElem h]; rfl

theorem dg_high (v k t : Nat) (h : v < 10 ^ k) (ht : k ≤ t) : (Pl.dg v t).toNat = 48 := by
  rw [Pl.dg_toNat, Nat.div_eq_of_lt (Nat.lt_of_lt_of_le h (Nat.pow_le_pow_right (by omega) ht))]

theorem ret_str {l l' : List UInt8} (h : l = l') : Ending.returned (.string ⟨l.toArray⟩) = .returned (.string ⟨l'.toArray⟩) := by rw [h]

set_option maxHeartbeats 2000000 in
theorem F11 (v p e : Nat) (w : World) (hv : v < 1000000000000000000) (hp : p ≤ 17) (he : e ≤ 64) :
    Calls Try.prog 11 #[.int .i64 v, .int .i64 p, .int .i64 e] w fun en w' => (∃ wd, p < wd ∧ wd ≤ 18 ∧ v < 10 ^ wd ∧ en = .returned (.string ⟨(Pl.fmtL v p e wd).toArray⟩)) ∧ Grown w w' := by
  have hz := zero96
  have hb : ((v : Int) == 0) = true ∨ ((v : Int) == 0) = false := by cases ((v : Int) == 0) <;> simp
  rcases hb with hb | hb
  all_goals
    go_enter Try.func11, Try.ntmps11
    go_wp2
    go_loopw [8, 9] (fun n x wr => ∃ (k : Nat) (D : List UInt8), n = .int .i64 k ∧ x = .int .i64 ((v / 10 ^ k : Nat) : Int) ∧ k ≤ 18 ∧ D.length = 19 ∧ (∀ j, j < k → D[j]? = some (Pl.dg v j)) ∧ Row wr w.heap.size 31 D ∧ Grown w wr) (fun _ x _ => (intOf x).toNat)
    case atStart =>
      first
      | (have hv0 : v = 0 := by simpa using hb
         exact ⟨1, 48 :: List.replicate 18 0, rfl, by subst hv0; rfl, by omega, rfl, fun j hj => by (obtain rfl : j = 0 := by omega); subst hv0; rfl, Row.fresh w 31 (48 :: List.replicate 18 0), Grown.alloc (Grown.refl _) _ _⟩)
      | exact ⟨0, List.replicate 19 0, rfl, by simp, by omega, rfl, fun j hj => by omega, Row.fresh w 31 (List.replicate 19 0), Grown.alloc (Grown.refl _) _ _⟩
    case round =>
      obtain ⟨k, D, rfl, rfl, hk, hD, hDg, hrow, hgr⟩ := hrel
      have HDg : Hid (∀ j, j < k → D[j]? = some (Pl.dg v j)) := hDg
      have HD : Hid (D.length = 19) := hD
      clear hD hDg
      have hylt : v / 10 ^ k ≤ v := Nat.div_le_self _ _
      have HYS : Hid (v / 10 ^ (k + 1) = v / 10 ^ k / 10) := by rw [Nat.pow_succ, ← Nat.div_div_eq_div_mul]; rfl
      have HYZ : Hid (v / 10 ^ k = 0 → v < 10 ^ k) := fun h => by
        rcases Nat.div_eq_zero_iff.1 h with h | h
        · have := Nat.pow_pos (n := k) (show 0 < 10 by omega); omega
        · exact h
      have HYP : Hid (0 < v / 10 ^ k → k < 18) := fun h => by
        rcases Nat.lt_or_ge k 18 with h' | h'
        · exact h'
        · have h2 : 10 ^ 18 ≤ 10 ^ k := Nat.pow_le_pow_right (by omega) h'
          have h3 : v / 10 ^ k = 0 := Nat.div_eq_of_lt (by omega)
          omega
      have HDG : Hid ((Pl.dg v k).toNat = 48 + v / 10 ^ k % 10) := Pl.dg_toNat v k
      generalize v / 10 ^ k = y at *
      by_cases hpos : 0 < y
      · have hk18 : k < 18 := HYP.out hpos
        have hcell : wr.cell? ⟨w.heap.size, k, none⟩ = some (.int .u8 ((D.getD k 0).toNat : Int)) := hrow.cell k _ (getD_some D k (by rw [HD.out]; omega))
        have hfr := hrow.frozen k
        go_wp2
        have e2 : Value.int .u8 (48 + (y : Int) % 10) = .int .u8 ((Pl.dg v k).toNat : Int) := ival (by rw [HDG.out]; omega)
        go_roundw
        case rel =>
          refine ⟨k + 1, D.set k (Pl.dg v k), by go_num, ival (by rw [HYS.out]; omega), by omega, by rw [List.length_set]; exact HD.out, fun j hj => ?_, ?_, Grown.setCell hgr (Nat.le_refl _) _⟩
          · rw [List.getElem?_set]
            by_cases hjk : k = j
            · subst hjk
              rw [if_pos rfl, if_pos (by rw [HD.out]; omega)]
            · rw [if_neg hjk]
              exact HDg.out j (by omega)
          · rw [e2]
            exact hrow.set k _
        case measure => simp [intOf]; omega
      · obtain rfl : y = 0 := by omega
        have hvk : v < 10 ^ k := HYZ.out rfl
        clear HYS HYZ HYP HDG hylt hpos
        have hbs : w.heap.size < wr.heap.size := hrow.lt
        obtain ⟨w1, rfl⟩ : ∃ w1 : World, w1 = wr := ⟨_, rfl⟩
        by_cases hwk : k < p + 1
        all_goals
          obtain ⟨wd, hwd⟩ : ∃ wd : Nat, wd = if k < p + 1 then p + 1 else k := ⟨_, rfl⟩
          have hpw : p < wd := by rw [hwd]; split <;> omega
          have hw18 : wd ≤ 18 := by rw [hwd]; split <;> omega
          have hkw : k ≤ wd := by rw [hwd]; split <;> omega
          have HWD : Hid (wd = if k < p + 1 then p + 1 else k) := hwd
          clear hwd
          have HV : Hid (v < 10 ^ wd) := Nat.lt_of_lt_of_le hvk (Nat.pow_le_pow_right (by omega) hkw)
          have HVK : Hid (v < 10 ^ k) := hvk
          clear hvk
          go_wp2
          go_loopw [12, 13] (fun mv kv wr => ∃ (t m : Nat) (O : List UInt8), mv = .int .i64 m ∧ kv = .int .i64 ((t : Int) - 1) ∧ t ≤ wd ∧ m = (Pl.pre v p wd t).length ∧ O.length = 96 ∧ O.take m = Pl.pre v p wd t ∧ Row wr w1.heap.size 32 O ∧ Row wr w.heap.size 31 D ∧ Grown w wr) (fun _ kv _ => (intOf kv + 1).toNat)
          case atStart =>
            refine ⟨wd, 0, blank 96, rfl, ival ?_, Nat.le_refl _, by rw [Pl.pre_top _ _ _ hpw]; rfl, by simp [blank], by rw [Pl.pre_top _ _ _ hpw]; rfl, Row.fresh w1 32 (blank 96), hrow.alloc _, Grown.alloc hgr _ _⟩
            rw [HWD.out]
            first
            | rw [if_pos hwk]; omega
            | rw [if_neg hwk]
          case round =>
            obtain ⟨t, m, O, rfl, rfl, ht, hm, hO, hOt, hrO, hrD, hgr2⟩ := hrel
            have HM : Hid (m = (Pl.pre v p wd t).length) := hm
            have HO : Hid (O.length = 96) := hO
            have HOT : Hid (O.take m = Pl.pre v p wd t) := hOt
            have hm20 : m + t ≤ wd + 1 := by rw [hm, Pl.pre_len v p wd t ht hpw]; split <;> omega
            clear hm hO hOt
            by_cases ht0 : t = 0
            · subst ht0
              obtain ⟨w2, rfl⟩ : ∃ w2 : World, w2 = wr := ⟨_, rfl⟩
              have hm19 : m ≤ 19 := by omega
              have hc0 : w2.cell? ⟨w1.heap.size, m, none⟩ = some (.int .u8 ((O.getD m 0).toNat : Int)) := hrO.cell m _ (getD_some O m (by rw [HO.out]; omega))
              have hf0 := hrO.frozen m
              clear hrD HDg HD hm20
              obtain ⟨B, hB⟩ : ∃ B : List UInt8, B = Pl.pre v p wd 0 ++ (if 0 < e ∧ p = 0 then [46] else []) := ⟨_, rfl⟩
              have HBF : Hid (Pl.fmtL v p e wd = B ++ List.replicate e 48) := by rw [hB]; rfl
              have hBl : B.length ≤ 20 := by rw [hB, List.length_append, ← HM.out]; split <;> simp <;> omega
              have HBE : Hid (B = Pl.pre v p wd 0 ++ (if 0 < e ∧ p = 0 then [46] else [])) := hB
              clear hB
              by_cases he0 : 0 < e
              all_goals by_cases hp0 : p = 0
              all_goals
                obtain ⟨m1, O1, HB1⟩ : ∃ (m1 : Nat) (O1 : List UInt8), Hid (m1 = B.length ∧ O1.length = 96 ∧ O1.take m1 = B ∧ ((0 < e ∧ p = 0 ∧ m1 = m + 1 ∧ O1 = O.set m 46) ∨ (¬ (0 < e ∧ p = 0) ∧ m1 = m ∧ O1 = O))) := by
                  by_cases hx : 0 < e ∧ p = 0
                  · refine ⟨m + 1, O.set m 46, ?_, by rw [List.length_set]; exact HO.out, ?_, Or.inl ⟨hx.1, hx.2, rfl, rfl⟩⟩
                    · rw [HBE.out, if_pos hx, List.length_append, ← HM.out]; rfl
                    · rw [take_set _ _ _ (by rw [HO.out]; omega), HOT.out, HBE.out, if_pos hx]
                  · refine ⟨m, O, ?_, HO.out, ?_, Or.inr ⟨hx, rfl, rfl⟩⟩
                    · rw [HBE.out, if_neg hx, List.append_nil, ← HM.out]
                    · rw [HBE.out, if_neg hx, List.append_nil, HOT.out]
                have hpb : ((p : Int) == 0) = decide (p = 0) := by
                  by_cases h : p = 0
                  · subst h; rfl
                  · simp [h]
                first
                | (have hpt : ((p : Int) == 0) = true := by rw [hpb]; exact decide_eq_true hp0)
                | (have hpt : ((p : Int) == 0) = false := by rw [hpb]; exact decide_eq_false hp0)
                have HPP := hide hp0
                clear hpb hp0
                go_wp2
                have HE0 := hide he0
                clear he0
                go_loopw [12, 15] (fun mv ev wr => ∃ (i m2 : Nat) (O2 : List UInt8), mv = .int .i64 m2 ∧ ev = .int .i64 i ∧ i ≤ e ∧ m2 = B.length + i ∧ O2.length = 96 ∧ O2.take m2 = B ++ List.replicate i 48 ∧ Row wr w1.heap.size 32 O2 ∧ Grown w wr) (fun _ ev _ => e - (intOf ev).toNat)
                case atStart =>
                  obtain ⟨h1, h2, h3, h4⟩ := HB1.out
                  have q1 := HE0.out
                  have q2 := HPP.out
                  rcases h4 with ⟨he', hp', hm', hO'⟩ | ⟨hn, hm', hO'⟩
                  · first
                    | (exfalso; omega)
                    | exact ⟨0, m1, O1, ival (by omega), rfl, Nat.zero_le _, h1, h2, by rw [h3]; simp, by rw [hO']; exact hrO.setv m 46 46 rfl, Grown.setCell hgr2 (Nat.le_of_lt hbs) _⟩
                  · first
                    | (exfalso; omega)
                    | exact ⟨0, m1, O1, ival (by omega), rfl, Nat.zero_le _, h1, h2, by rw [h3]; simp, by rw [hO']; exact hrO, hgr2⟩
                case round =>
                  obtain ⟨i, m2, O2, rfl, rfl, hi, hm2, hO2, hOt2, hrO2, hgr3⟩ := hrel
                  have HM2 := hide hm2
                  have HO2 := hide hO2
                  have HOT2 := hide hOt2
                  have hm90 : m2 ≤ 84 := by omega
                  clear hm2 hO2 hOt2
                  by_cases hie : i < e
                  · have hc2 : wr.cell? ⟨w1.heap.size, m2, none⟩ = some (.int .u8 ((O2.getD m2 0).toNat : Int)) := hrO2.cell m2 _ (getD_some O2 m2 (by rw [HO2.out]; omega))
                    have hf2 := hrO2.frozen m2
                    go_wp2
                    go_roundw
                    case rel =>
                      refine ⟨i + 1, m2 + 1, O2.set m2 48, by go_num, by go_num, by omega, by rw [HM2.out]; omega, by rw [List.length_set]; exact HO2.out, ?_, hrO2.setv m2 48 48 rfl, Grown.setCell hgr3 (Nat.le_of_lt hbs) _⟩
                      rw [take_set _ _ _ (by rw [HO2.out]; omega), HOT2.out, List.replicate_succ', List.append_assoc]
                    case measure => (simp [intOf]; try omega)
                  · have hconv := hrO2.text m2 96 (by rw [HO2.out]; omega)
                    have HIE : Hid (i = e) := by show _ = _; omega
                    have HFIN : Hid (O2.take m2 = Pl.fmtL v p e wd) := by
                      show _ = _
                      rw [HOT2.out, HBF.out, HIE.out]
                    generalize O2.take m2 = fin at *
                    have hsl := slice96 w1.heap.size m2 (by omega)
                    go_wp2
                    go_ret
                    exact ⟨⟨wd, hpw, hw18, HV.out, ret_str HFIN.out⟩, hgr3⟩
            · obtain ⟨t, rfl⟩ : ∃ t', t = t' + 1 := ⟨t - 1, by omega⟩
              have e1 : (((t + 1 : Nat) : Int) - 1) = (t : Int) := by omega
              rw [e1]
              clear e1
              have HS : Hid (Pl.pre v p wd t = Pl.pre v p wd (t + 1) ++ (if t + 1 = p then [46, Pl.dg v t] else [Pl.dg v t])) := Pl.pre_step v p wd t (by omega) hpw
              have hc0 : wr.cell? ⟨w1.heap.size, m, none⟩ = some (.int .u8 ((O.getD m 0).toNat : Int)) := hrO.cell m _ (getD_some O m (by rw [HO.out]; omega))
              have hc1 : wr.cell? ⟨w1.heap.size, m + 1, none⟩ = some (.int .u8 ((O.getD (m + 1) 0).toNat : Int)) := hrO.cell (m + 1) _ (getD_some O (m + 1) (by rw [HO.out]; omega))
              have hf0 := hrO.frozen m
              have hf1 := hrO.frozen (m + 1)
              have HE : Hid (¬ t < k → (Pl.dg v t).toNat = 48) := fun h => dg_high v k t HVK.out (by omega)
              have hcD : t < k → wr.cell? ⟨w.heap.size, t, none⟩ = some (.int .u8 ((Pl.dg v t).toNat : Int)) := fun h => hrD.cell t _ (HDg.out t h)
              by_cases hdot : t + 1 = p
              · have hd1 : ((t : Int) == (p : Int) - 1) = true := by simp; omega
                have hp0 : 0 < p := by omega
                have HDT : Hid (t + 1 = p) := hdot
                clear hdot
                by_cases htk : t < k
                all_goals
                  first
                  | have hcD1 := hcD htk
                  | have HE48 := HE.out htk
                    have HE1 : Hid ((Pl.dg v t).toNat = 48) := HE48
                    clear HE48
                  clear hcD
                  go_wp2
                  go_roundw
                  case rel =>
                    refine ⟨t, m + 2, (O.set m 46).set (m + 1) (Pl.dg v t), by go_num, rfl, by omega, by rw [HS.out, if_pos HDT.out, List.length_append, ← HM.out]; rfl, by rw [List.length_set, List.length_set]; exact HO.out, ?_, ?_, (hrD.other _ _ (Nat.ne_of_lt hbs)).other _ _ (Nat.ne_of_lt hbs), Grown.setCell (Grown.setCell hgr2 (Nat.le_of_lt hbs) _) (Nat.le_of_lt hbs) _⟩
                    · rw [take_set _ _ _ (by rw [List.length_set, HO.out]; omega), take_set _ _ _ (by rw [HO.out]; omega), HOT.out, HS.out, if_pos HDT.out, List.append_assoc]; rfl
                    · first
                      | exact (hrO.setv m 46 46 rfl).setv (m + 1) (Pl.dg v t) _ rfl
                      | exact (hrO.setv m 46 46 rfl).setv (m + 1) (Pl.dg v t) _ (by rw [HE1.out]; rfl)
                  case measure => (simp [intOf]; try omega)
              · have hd1 : ((t : Int) == (p : Int) - 1) = false := by simp; omega
                have HDT : Hid (¬ t + 1 = p) := hdot
                clear hdot
                by_cases htk : t < k
                all_goals by_cases hp0 : 0 < p
                all_goals try (exfalso; omega)
                all_goals
                  first
                  | have hcD1 := hcD htk
                  | have HE48 := HE.out htk
                    have HE1 : Hid ((Pl.dg v t).toNat = 48) := HE48
                    clear HE48
                  clear hcD
                  go_wp2
                  all_goals
                    go_roundw
                    case rel =>
                      refine ⟨t, m + 1, O.set m (Pl.dg v t), by go_num, rfl, by omega, by rw [HS.out, if_neg HDT.out, List.length_append, ← HM.out]; rfl, by rw [List.length_set]; exact HO.out, ?_, ?_, hrD.other _ _ (Nat.ne_of_lt hbs), Grown.setCell hgr2 (Nat.le_of_lt hbs) _⟩
                      · rw [take_set _ _ _ (by rw [HO.out]; omega), HOT.out, HS.out, if_neg HDT.out]
                      · first
                        | exact hrO.setv m (Pl.dg v t) _ rfl
                        | exact hrO.setv m (Pl.dg v t) _ (by rw [HE1.out]; rfl)
                    case measure => (simp [intOf]; try omega)
end Go.Proofs.Qxb6600417a
