/-
  smallModel_money_b1: it answers what parseSmall answers. (The text behind the dot's search lies here twice: with a point and without.)
-/
import Derived.Test.Qxb6600417aRow
import Derived.Test.Qxb6600417aTable
namespace Go.Proofs.Qxb6600417a
open Go.ChangeShapes Go.WideShapes Go.ChangeAt Go.RowKit

theorem getD_some (l : List UInt8) (i : Nat) (h : i < l.length) : l[i]? = some (l.getD i 0) := by
  rw [List.getD_eq_getElem?_getD, List.getElem?_eq_getElem h]; rfl
theorem ext_take (s : ByteArray) (k : Nat) : (s.extract 0 k).data.toList = s.data.toList.take k := by
  rw [ext_data]; rfl
theorem size_of_data (s : ByteArray) (l : List UInt8) (h : s.data.toList = l) : s.size = l.length := by rw [← h, len_size]

set_option maxHeartbeats 4000000 in
theorem F9 (s : ByteArray) (p : Nat) (w : World) (hs : s.size ≤ 2000000) (hp : p ≤ 65536) :
    Calls Try.prog 9 #[.string s, .int .i64 p] w fun e w' => e = .returned (.tuple #[.int .i64 (Pl.psV s.data.toList p), .bool (Pl.okp s.data.toList p)]) ∧ Grown w w' := by
  have hz := zero18
  go_enter Try.func9, Try.ntmps9
  go_wp2
  go_loop [6, 7] (fun dv kv => ∃ k : Nat, k ≤ s.size ∧ dv = .int .i64 (-1) ∧ kv = .int .i64 k ∧ Pl.noDot (s.data.toList.take k) = true) (fun _ kv => s.size - (intOf kv).toNat)
  case atStart => exact ⟨0, Nat.zero_le _, rfl, rfl, rfl⟩
  case round =>
    obtain ⟨k, hk, rfl, rfl, hnd⟩ := hrel
    have HND := hide hnd
    clear hnd
    by_cases hlt : k < s.size
    · have HG := hide (getq s k hlt)
      cases h46 : ((s[k].toNat : Int) == 46) with
      | false =>
        have H46 : Hid (s[k].toNat ≠ 46) := by show _ ≠ _; simp at h46; omega
        go_wp2
        go_round
        case rel => exact ⟨k + 1, by omega, rfl, by go_num, Pl.noDot_snoc _ k _ HND.out HG.out H46.out⟩
        case measure => simp [intOf]; omega
      | true =>
        have h46' : s[k].toNat = 46 := by simp at h46; omega
        have hc := Pl.cut_dot _ k HND.out (fun c hc => by rw [HG.out] at hc; cases hc; exact h46')
        have HWH : Hid ((s.extract 0 k).data.toList = Pl.whole s.data.toList) := by show _ = _; rw [ext_take, hc.1]
        have HFR : Hid ((s.extract (k + 1) s.size).data.toList = Pl.frac s.data.toList) := by show _ = _; rw [ext_end, hc.2.2]
        have HRE : Hid ((Pl.rest s.data.toList).isEmpty = false) := by
          show _ = _
          rw [hc.2.1, Pl.drop_one _ k _ HG.out]; rfl
        have hwk : (s.extract 0 k).size = k := by
          have := size_of_data _ _ HWH.out
          rw [this, hc.1, List.length_take, len_size]; omega
        have hfs : (s.extract (k + 1) s.size).size ≤ 2000000 := by
          have := size_of_data _ _ HFR.out
          rw [this, hc.2.2, List.length_drop, len_size]; omega
        have hws : (s.extract 0 k).size ≤ 2000000 := by rw [hwk]; omega
        have HWL : Hid ((Pl.whole s.data.toList).length = (s.extract 0 k).size) := by show _ = _; rw [← HWH.out, len_size]
        have HFL : Hid ((Pl.frac s.data.toList).length = (s.extract (k + 1) s.size).size) := by show _ = _; rw [← HFR.out, len_size]
        have HWE : Hid ((s.extract 0 k).toList.isEmpty = (Pl.whole s.data.toList).isEmpty) := by show _ = _; rw [ByteArray.toList_eq, HWH.out]
        have HFE : Hid ((s.extract (k + 1) s.size).toList.isEmpty = (Pl.frac s.data.toList).isEmpty) := by show _ = _; rw [ByteArray.toList_eq, HFR.out]
        clear hc h46' hwk
        cases hwe : (Pl.whole s.data.toList).isEmpty with
        | true =>
          have HNO := hide (Pl.okp_no1 _ p hwe)
          have hem : (s.extract 0 k).toList.isEmpty = true := HWE.out.trans hwe
          clear hwe
          go_wp2_with fail
          go_ret2
          exact ⟨ret_no _ _ HNO.out, Grown.refl _⟩
        | false =>
        have HWE0 := hide hwe
        have hem : (s.extract 0 k).toList.isEmpty = false := HWE.out.trans hwe
        clear hwe
        go_wp2_with fail
        generalize s.extract 0 k = wh at *
        generalize s.extract (k + 1) s.size = fr at *
        refine (F16 _ _ hws).mono ?_
        rintro _ w' ⟨rfl, hw'⟩
        subst w'
        rw [HWH.out]
        cases hwd : Pl.allD (Pl.whole s.data.toList) with
        | false =>
          have HNO := hide (Pl.okp_no2 _ p hwd)
          clear hwd
          go_wp2_with fail
          go_ret2
          exact ⟨ret_no _ _ HNO.out, Grown.refl _⟩
        | true =>
        have HWD : Hid ((Pl.whole s.data.toList).all Pl.isD = true) := hwd
        clear hwd
        by_cases h18 : wh.size + p ≤ 18
        case neg =>
          have HNO := hide (Pl.okp_no3 s.data.toList p (by rw [HWL.out]; exact h18))
          by_cases h19 : 18 < wh.size
          all_goals
            go_wp2_with fail
            go_ret2
            exact ⟨ret_no _ _ HNO.out, Grown.refl _⟩
        case pos =>
        cases hfe : (Pl.frac s.data.toList).isEmpty with
        | true =>
          have HNO := hide (Pl.okp_no4 _ p HRE.out hfe)
          have hem2 : fr.toList.isEmpty = true := HFE.out.trans hfe
          clear hfe
          go_wp2_with fail
          go_ret2
          exact ⟨ret_no _ _ HNO.out, Grown.refl _⟩
        | false =>
        have HFE0 := hide hfe
        have hem2 : fr.toList.isEmpty = false := HFE.out.trans hfe
        clear hfe
        go_wp2_with fail
        refine (F16 _ _ hfs).mono ?_
        rintro _ w' ⟨rfl, hw'⟩
        subst w'
        rw [HFR.out]
        cases hfd : Pl.allD (Pl.frac s.data.toList) with
        | false =>
          have HNO := hide (Pl.okp_no5 _ p HRE.out hfd)
          clear hfd
          go_wp2_with fail
          go_ret2
          exact ⟨ret_no _ _ HNO.out, Grown.refl _⟩
        | true =>
        have HFD : Hid ((Pl.frac s.data.toList).all Pl.isD = true) := hfd
        clear hfd
        clear HWE HFE hem hem2 h46
        go_wp2_with fail
        go_loop [10] (fun kv => ∃ j : Nat, p ≤ j ∧ (j ≤ p ∨ j ≤ fr.size) ∧ kv = .int .i64 j ∧ Pl.zs (((Pl.frac s.data.toList).take j).drop p) = true) (fun kv => fr.size - (intOf kv).toNat)
        case atStart => exact ⟨p, Nat.le_refl _, Or.inl (Nat.le_refl _), rfl, by rw [List.drop_of_length_le (by simp; omega)]; rfl⟩
        case round =>
          obtain ⟨j, hj, hjb, rfl, hzj⟩ := hrel
          have HZ := hide hzj
          clear hzj
          by_cases hjl : j < fr.size
          · have HGJ : Hid ((Pl.frac s.data.toList)[j]? = some fr[j]) := by show _ = _; rw [← HFR.out]; exact getq fr j hjl
            cases h48 : ((fr[j].toNat : Int) != 48) with
            | true =>
              have HNO := hide (Pl.okp_no6 _ p HRE.out (Pl.zs_false_of _ p j _ HGJ.out hj (by simp at h48; omega)))
              go_wp2_with fail
              go_ret2
              exact ⟨ret_no _ _ HNO.out, Grown.refl _⟩
            | false =>
              have H48 : Hid (fr[j].toNat = 48) := by show _ = _; simp at h48; omega
              go_wp2_with fail
              go_round
              case rel => exact ⟨j + 1, by omega, Or.inr (by omega), by go_num, Pl.zs_snoc _ p j _ HGJ.out HZ.out (fun _ => H48.out)⟩
              case measure => simp [intOf]; omega
          · have HOKT : Hid (Pl.okp s.data.toList p = true) := by
              have hz2 := HZ.out
              rw [List.take_of_length_le (by rw [HFL.out]; omega)] at hz2
              exact Pl.okp_yes _ p HWE0.out HWD.out (by rw [HWL.out]; exact h18) (Or.inr ⟨HFE0.out, HFD.out, hz2⟩)
            clear HZ
            go_wp2_with fail
            go_loopw [12, 13] (fun lv kv wr => ∃ (k : Nat) (O : List UInt8), lv = .int .i64 k ∧ kv = .int .i64 k ∧ k ≤ wh.size ∧ O.length = 18 ∧ O.take k = (Pl.whole s.data.toList).take k ∧ Row wr w.heap.size 29 O ∧ Grown w wr) (fun _ kv _ => wh.size - (intOf kv).toNat)
            case atStart => exact ⟨0, blank 18, rfl, rfl, Nat.zero_le _, by simp [blank], rfl, Row.fresh w 29 (blank 18), Grown.alloc (Grown.refl _) _ _⟩
            case round =>
              obtain ⟨k3, O, rfl, rfl, hk3, hO, hOt, hrow, hgr⟩ := hrel
              have HO := hide hO
              have HOT := hide hOt
              clear hO hOt
              by_cases h3 : k3 < wh.size
              · have hc0 : wr.cell? ⟨w.heap.size, k3, none⟩ = some (.int .u8 ((O.getD k3 0).toNat : Int)) := hrow.cell k3 _ (getD_some O k3 (by rw [HO.out]; omega))
                have hf0 := hrow.frozen k3
                have HG3 : Hid ((Pl.whole s.data.toList)[k3]? = some wh[k3]) := by rw [← HWH.out]; exact getq wh k3 h3
                go_wp2_with fail
                go_roundw
                case rel =>
                  refine ⟨k3 + 1, O.set k3 wh[k3], by go_num, by go_num, by omega, by rw [List.length_set]; exact HO.out, ?_, hrow.setv k3 wh[k3] _ rfl, Grown.setCell hgr (Nat.le_refl _) _⟩
                  rw [take_set _ _ _ (by rw [HO.out]; omega), HOT.out, Pl.take_snoc _ k3 _ HG3.out]
                case measure => (simp [intOf]; try omega)
              · obtain rfl : k3 = wh.size := by omega
                have HOW : Hid (O.take wh.size = Pl.whole s.data.toList) := by
                  show _ = _
                  rw [HOT.out, List.take_of_length_le (by rw [HWL.out]; omega)]
                clear HOT h3 hk3
                obtain ⟨w1, rfl⟩ : ∃ w1 : World, w1 = wr := ⟨_, rfl⟩
                go_wp2_with fail
                go_loopw [12, 14] (fun lv kv wr => ∃ (q : Nat) (O : List UInt8), lv = .int .i64 ((wh.size + q : Nat) : Int) ∧ kv = .int .i64 q ∧ q ≤ p ∧ O.length = 18 ∧ O.take (wh.size + q) = Pl.whole s.data.toList ++ (Pl.pad s.data.toList p).take q ∧ Row wr w.heap.size 29 O ∧ Grown w wr) (fun _ kv _ => p - (intOf kv).toNat)
                case atStart => exact ⟨0, O, rfl, rfl, Nat.zero_le _, HO.out, by rw [Nat.add_zero, HOW.out]; simp, hrow, hgr⟩
                case round =>
                  obtain ⟨q, O, rfl, rfl, hq, hO, hOt, hrow, hgr⟩ := hrel
                  have HO := hide hO
                  have HOT := hide hOt
                  clear hO hOt
                  by_cases h4 : q < p
                  · have hc0 : wr.cell? ⟨w.heap.size, wh.size + q, none⟩ = some (.int .u8 ((O.getD (wh.size + q) 0).toNat : Int)) := hrow.cell _ _ (getD_some O _ (by rw [HO.out]; omega))
                    have hf0 := hrow.frozen (wh.size + q)
                    by_cases h5 : q < fr.size
                    · have HG4 : Hid ((Pl.pad s.data.toList p)[q]? = some fr[q]) := Pl.pad_get _ p q _ (by rw [← HFR.out]; exact getq fr q h5)
                      go_wp2_with fail
                      go_roundw
                      case rel =>
                        refine ⟨q + 1, O.set (wh.size + q) fr[q], by go_num, by go_num, by omega, by rw [List.length_set]; exact HO.out, ?_, hrow.setv (wh.size + q) fr[q] _ rfl, Grown.setCell hgr (Nat.le_refl _) _⟩
                        rw [← Nat.add_assoc, take_set _ _ _ (by rw [HO.out]; omega), HOT.out, Pl.take_snoc _ q _ HG4.out, List.append_assoc]
                      case measure => (simp [intOf]; try omega)
                    · have HG4 : Hid ((Pl.pad s.data.toList p)[q]? = some 48) := Pl.pad_get48 _ p q (by rw [HFL.out]; omega) h4
                      go_wp2_with fail
                      go_roundw
                      case rel =>
                        refine ⟨q + 1, O.set (wh.size + q) 48, by go_num, by go_num, by omega, by rw [List.length_set]; exact HO.out, ?_, hrow.setv (wh.size + q) 48 48 rfl, Grown.setCell hgr (Nat.le_refl _) _⟩
                        rw [← Nat.add_assoc, take_set _ _ _ (by rw [HO.out]; omega), HOT.out, Pl.take_snoc _ q _ HG4.out, List.append_assoc]
                      case measure => (simp [intOf]; try omega)
                  · obtain rfl : q = p := by omega
                    clear h4 hq
                    obtain ⟨w2, rfl⟩ : ∃ w2 : World, w2 = wr := ⟨_, rfl⟩
                    obtain ⟨D, hD⟩ : ∃ D : List UInt8, D = Pl.whole s.data.toList ++ (Pl.pad s.data.toList q).take q := ⟨_, rfl⟩
                    have HDV : Hid (Pl.val D = Pl.pv s.data.toList q q) := by rw [hD]; rfl
                    have HDA : Hid (D.all Pl.isD = true) := by
                      rw [hD, List.all_append, HWD.out, Pl.all_take _ _ (Pl.pad_all _ _ HFD.out)]; rfl
                    have HDL : Hid (D.length = wh.size + q) := by
                      have := Pl.pad_len s.data.toList q
                      rw [hD, List.length_append, List.length_take, HWL.out]; show _ + min _ _ = _; omega
                    have HDO : Hid (O.take (wh.size + q) = D) := by rw [hD]; exact HOT.out
                    clear hD HOT
                    go_wp2_with fail
                    go_loopw [16, 17, 18] (fun vv wv kv wr => ∃ (t : Nat) (W : Int), kv = .int .i64 ((t : Int) - 1) ∧ vv = .int .i64 (Pl.val (D.drop t)) ∧ wv = .int .i64 W ∧ W = 10 ^ (wh.size + q - t) ∧ t ≤ wh.size + q ∧ w2 = wr) (fun _ _ kv _ => (intOf kv + 1).toNat)
                    case atStart =>
                      refine ⟨wh.size + q, 1, ival (by omega), ival ?_, rfl, by rw [Nat.sub_self]; rfl, Nat.le_refl _, rfl⟩
                      rw [List.drop_of_length_le (by rw [HDL.out]; omega)]; rfl
                    case round =>
                      obtain ⟨t, W, rfl, rfl, rfl, hW, ht, rfl⟩ := hrel
                      have HW := hide hW
                      clear hW
                      by_cases ht0 : t = 0
                      · subst ht0
                        have HFIN : Hid (Pl.val (D.drop 0) = Pl.pv s.data.toList q q) := by rw [List.drop_zero]; exact HDV.out
                        generalize Pl.val (D.drop 0) = y at *
                        go_wp2_with fail
                        go_ret2
                        exact ⟨ret_yes _ _ _ HOKT.out HFIN.out, hgr⟩
                      · obtain ⟨t, rfl⟩ : ∃ t', t = t' + 1 := ⟨t - 1, by omega⟩
                        have e1 : (((t + 1 : Nat) : Int) - 1) = (t : Int) := by omega
                        rw [e1]
                        clear e1
                        have htD : t < D.length := by rw [HDL.out]; omega
                        have HGD : Hid (D[t]? = some (D.getD t 0)) := getD_some D t htD
                        have HGO : O[t]? = some (D.getD t 0) := by
                          have h := HGD.out
                          rw [← HDO.out, List.getElem?_take, if_pos (by omega), HDO.out] at h
                          exact h
                        have hc0 : w2.cell? ⟨w.heap.size, t, none⟩ = some (.int .u8 ((D.getD t 0).toNat : Int)) := hrow.cell t _ HGO
                        have HDD : Hid (Pl.isD (D.getD t 0) = true) := by
                          have h := HDA.out
                          rw [List.all_eq_true] at h
                          exact h _ (List.mem_of_getElem? HGD.out)
                        have HVD : Hid (Pl.val (D.drop t) = Pl.dv (D.getD t 0) * W + Pl.val (D.drop (t + 1))) := by
                          show _ = _
                          rw [Pl.val_drop D t _ HGD.out, HDL.out, HW.out]
                        have hv1 := Pl.val_lt18 (D.drop t) (Pl.all_drop _ _ HDA.out) (by rw [List.length_drop, HDL.out]; omega)
                        have hv2 := Pl.val_lt18 (D.drop (t + 1)) (Pl.all_drop _ _ HDA.out) (by rw [List.length_drop, HDL.out]; omega)
                        have HWB : Hid (0 ≤ W ∧ W ≤ 100000000000000000) := by
                          show _ ∧ _
                          rw [HW.out]
                          refine ⟨Int.pow_nonneg (by omega), ?_⟩
                          have := Pl.pow_mono (wh.size + q - (t + 1)) 17 (by omega)
                          simpa using this
                        have HV1 := hide hv1
                        have HV2 := hide hv2
                        clear htD HGO hv1 hv2
                        generalize D.getD t 0 = c at *
                        generalize hy : Pl.val (D.drop (t + 1)) = y at *
                        clear hy
                        go_wp2_with fail
                        refine (F17 c _).mono ?_
                        rintro _ w' ⟨rfl, hw'⟩
                        subst w'
                        rw [Pl.dval_yes c HDD.out, HDD.out]
                        generalize hdc : Pl.dv c = d at *
                        clear hdc
                        go_wp2_with fail
                        go_roundw
                        case rel =>
                          have h1 := HV1.out
                          have h2 := HV2.out
                          have h3 := HVD.out
                          have h4 := HWB.out
                          repeat apply Exists.intro
                          refine ⟨⟨t, W * 10, rfl, ival ?_, ival ?_, ?_, by omega, by first | rfl | trivial⟩, rfl⟩
                          · rw [h3] at h1 ⊢
                            generalize d * W = z at *
                            try unfold wrap64
                            omega
                          · try unfold wrap64
                            omega
                          · rw [HW.out, show wh.size + q - t = (wh.size + q - (t + 1)) + 1 from by omega, Int.pow_succ]
                        case measure => (simp [intOf]; try omega)
    · have hkl : s.data.toList.take k = s.data.toList := List.take_of_length_le (by rw [len_size]; omega)
      have hnd := HND.out
      rw [hkl] at hnd
      have hc := Pl.bare_cut _ hnd
      have HRE : Hid ((Pl.rest s.data.toList).isEmpty = true) := by show _ = _; rw [hc.2]; rfl
      have hfrac : Pl.frac s.data.toList = [] := by unfold Pl.frac; rw [hc.2]; rfl
      have HWH : Hid (s.data.toList = Pl.whole s.data.toList) := by show _ = _; rw [hc.1]
      have HWL : Hid ((Pl.whole s.data.toList).length = s.size) := by show _ = _; rw [← HWH.out, len_size]
      have HWE : Hid (s.toList.isEmpty = (Pl.whole s.data.toList).isEmpty) := by show _ = _; rw [ByteArray.toList_eq, ← HWH.out]
      have HF0 := hide hfrac
      clear hkl hnd hc hfrac
      cases hwe : (Pl.whole s.data.toList).isEmpty with
      | true =>
        have HNO := hide (Pl.okp_no1 _ p hwe)
        have hem : s.toList.isEmpty = true := HWE.out.trans hwe
        clear hwe
        go_wp2_with fail
        go_ret2
        exact ⟨ret_no _ _ HNO.out, Grown.refl _⟩
      | false =>
      have HWE0 := hide hwe
      have hem : s.toList.isEmpty = false := HWE.out.trans hwe
      clear hwe
      go_wp2_with fail
      refine (F16 _ _ hs).mono ?_
      rintro _ w' ⟨rfl, hw'⟩
      subst w'
      rw [HWH.out]
      cases hwd : Pl.allD (Pl.whole s.data.toList) with
      | false =>
        have HNO := hide (Pl.okp_no2 _ p hwd)
        clear hwd
        go_wp2_with fail
        go_ret2
        exact ⟨ret_no _ _ HNO.out, Grown.refl _⟩
      | true =>
      have HWD : Hid ((Pl.whole s.data.toList).all Pl.isD = true) := hwd
      clear hwd
      have HFD : Hid ((Pl.frac s.data.toList).all Pl.isD = true) := by show _ = _; rw [HF0.out]; rfl
      by_cases h18 : s.size + p ≤ 18
      case neg =>
        have HNO := hide (Pl.okp_no3 s.data.toList p (by rw [HWL.out]; exact h18))
        by_cases h19 : 18 < s.size
        all_goals
          go_wp2_with fail
          go_ret2
          exact ⟨ret_no _ _ HNO.out, Grown.refl _⟩
      case pos =>
      have HOKT : Hid (Pl.okp s.data.toList p = true) := Pl.okp_yes _ p HWE0.out HWD.out (by rw [HWL.out]; exact h18) (Or.inl HRE.out)
      clear HWE hem
      go_wp2_with fail
      go_loopw [12, 13] (fun lv kv wr => ∃ (k : Nat) (O : List UInt8), lv = .int .i64 k ∧ kv = .int .i64 k ∧ k ≤ s.size ∧ O.length = 18 ∧ O.take k = (Pl.whole s.data.toList).take k ∧ Row wr w.heap.size 29 O ∧ Grown w wr) (fun _ kv _ => s.size - (intOf kv).toNat)
      case atStart => exact ⟨0, blank 18, rfl, rfl, Nat.zero_le _, by simp [blank], rfl, Row.fresh w 29 (blank 18), Grown.alloc (Grown.refl _) _ _⟩
      case round =>
        obtain ⟨k3, O, rfl, rfl, hk3, hO, hOt, hrow, hgr⟩ := hrel
        have HO := hide hO
        have HOT := hide hOt
        clear hO hOt
        by_cases h3 : k3 < s.size
        · have hc0 : wr.cell? ⟨w.heap.size, k3, none⟩ = some (.int .u8 ((O.getD k3 0).toNat : Int)) := hrow.cell k3 _ (getD_some O k3 (by rw [HO.out]; omega))
          have hf0 := hrow.frozen k3
          have HG3 : Hid ((Pl.whole s.data.toList)[k3]? = some s[k3]) := by show _ = _; rw [← HWH.out]; exact getq s k3 h3
          go_wp2_with fail
          go_roundw
          case rel =>
            refine ⟨k3 + 1, O.set k3 s[k3], by go_num, by go_num, by omega, by rw [List.length_set]; exact HO.out, ?_, hrow.setv k3 s[k3] _ rfl, Grown.setCell hgr (Nat.le_refl _) _⟩
            rw [take_set _ _ _ (by rw [HO.out]; omega), HOT.out, Pl.take_snoc _ k3 _ HG3.out]
          case measure => (simp [intOf]; try omega)
        · obtain rfl : k3 = s.size := by omega
          have HOW : Hid (O.take s.size = Pl.whole s.data.toList) := by
            show _ = _
            rw [HOT.out, List.take_of_length_le (by rw [HWL.out]; omega)]
          clear HOT h3 hk3
          obtain ⟨w1, rfl⟩ : ∃ w1 : World, w1 = wr := ⟨_, rfl⟩
          go_wp2_with fail
          go_loopw [12, 14] (fun lv kv wr => ∃ (q : Nat) (O : List UInt8), lv = .int .i64 ((s.size + q : Nat) : Int) ∧ kv = .int .i64 q ∧ q ≤ p ∧ O.length = 18 ∧ O.take (s.size + q) = Pl.whole s.data.toList ++ (Pl.pad s.data.toList p).take q ∧ Row wr w.heap.size 29 O ∧ Grown w wr) (fun _ kv _ => p - (intOf kv).toNat)
          case atStart => exact ⟨0, O, rfl, rfl, Nat.zero_le _, HO.out, by rw [Nat.add_zero, HOW.out]; simp, hrow, hgr⟩
          case round =>
            obtain ⟨q, O, rfl, rfl, hq, hO, hOt, hrow, hgr⟩ := hrel
            have HO := hide hO
            have HOT := hide hOt
            clear hO hOt
            by_cases h4 : q < p
            · have hc0 : wr.cell? ⟨w.heap.size, s.size + q, none⟩ = some (.int .u8 ((O.getD (s.size + q) 0).toNat : Int)) := hrow.cell _ _ (getD_some O _ (by rw [HO.out]; omega))
              have hf0 := hrow.frozen (s.size + q)
              have HG4 : Hid ((Pl.pad s.data.toList p)[q]? = some 48) := Pl.pad_get48 _ p q (by rw [HF0.out]; exact Nat.zero_le _) h4
              go_wp2_with fail
              go_roundw
              case rel =>
                refine ⟨q + 1, O.set (s.size + q) 48, by go_num, by go_num, by omega, by rw [List.length_set]; exact HO.out, ?_, hrow.setv (s.size + q) 48 48 rfl, Grown.setCell hgr (Nat.le_refl _) _⟩
                rw [← Nat.add_assoc, take_set _ _ _ (by rw [HO.out]; omega), HOT.out, Pl.take_snoc _ q _ HG4.out, List.append_assoc]
              case measure => (simp [intOf]; try omega)
            · obtain rfl : q = p := by omega
              clear h4 hq
              obtain ⟨w2, rfl⟩ : ∃ w2 : World, w2 = wr := ⟨_, rfl⟩
              obtain ⟨D, hD⟩ : ∃ D : List UInt8, D = Pl.whole s.data.toList ++ (Pl.pad s.data.toList q).take q := ⟨_, rfl⟩
              have HDV : Hid (Pl.val D = Pl.pv s.data.toList q q) := by rw [hD]; rfl
              have HDA : Hid (D.all Pl.isD = true) := by
                rw [hD, List.all_append, HWD.out, Pl.all_take _ _ (Pl.pad_all _ _ HFD.out)]; rfl
              have HDL : Hid (D.length = s.size + q) := by
                have := Pl.pad_len s.data.toList q
                rw [hD, List.length_append, List.length_take, HWL.out]; show _ + min _ _ = _; omega
              have HDO : Hid (O.take (s.size + q) = D) := by rw [hD]; exact HOT.out
              clear hD HOT
              go_wp2_with fail
              go_loopw [16, 17, 18] (fun vv wv kv wr => ∃ (t : Nat) (W : Int), kv = .int .i64 ((t : Int) - 1) ∧ vv = .int .i64 (Pl.val (D.drop t)) ∧ wv = .int .i64 W ∧ W = 10 ^ (s.size + q - t) ∧ t ≤ s.size + q ∧ w2 = wr) (fun _ _ kv _ => (intOf kv + 1).toNat)
              case atStart =>
                refine ⟨s.size + q, 1, ival (by omega), ival ?_, rfl, by rw [Nat.sub_self]; rfl, Nat.le_refl _, rfl⟩
                rw [List.drop_of_length_le (by rw [HDL.out]; omega)]; rfl
              case round =>
                obtain ⟨t, W, rfl, rfl, rfl, hW, ht, rfl⟩ := hrel
                have HW := hide hW
                clear hW
                by_cases ht0 : t = 0
                · subst ht0
                  have HFIN : Hid (Pl.val (D.drop 0) = Pl.pv s.data.toList q q) := by rw [List.drop_zero]; exact HDV.out
                  generalize Pl.val (D.drop 0) = y at *
                  go_wp2_with fail
                  go_ret2
                  exact ⟨ret_yes _ _ _ HOKT.out HFIN.out, hgr⟩
                · obtain ⟨t, rfl⟩ : ∃ t', t = t' + 1 := ⟨t - 1, by omega⟩
                  have e1 : (((t + 1 : Nat) : Int) - 1) = (t : Int) := by omega
                  rw [e1]
                  clear e1
                  have htD : t < D.length := by rw [HDL.out]; omega
                  have HGD : Hid (D[t]? = some (D.getD t 0)) := getD_some D t htD
                  have HGO : O[t]? = some (D.getD t 0) := by
                    have h := HGD.out
                    rw [← HDO.out, List.getElem?_take, if_pos (by omega), HDO.out] at h
                    exact h
                  have hc0 : w2.cell? ⟨w.heap.size, t, none⟩ = some (.int .u8 ((D.getD t 0).toNat : Int)) := hrow.cell t _ HGO
                  have HDD : Hid (Pl.isD (D.getD t 0) = true) := by
                    have h := HDA.out
                    rw [List.all_eq_true] at h
                    exact h _ (List.mem_of_getElem? HGD.out)
                  have HVD : Hid (Pl.val (D.drop t) = Pl.dv (D.getD t 0) * W + Pl.val (D.drop (t + 1))) := by
                    show _ = _
                    rw [Pl.val_drop D t _ HGD.out, HDL.out, HW.out]
                  have hv1 := Pl.val_lt18 (D.drop t) (Pl.all_drop _ _ HDA.out) (by rw [List.length_drop, HDL.out]; omega)
                  have hv2 := Pl.val_lt18 (D.drop (t + 1)) (Pl.all_drop _ _ HDA.out) (by rw [List.length_drop, HDL.out]; omega)
                  have HWB : Hid (0 ≤ W ∧ W ≤ 100000000000000000) := by
                    show _ ∧ _
                    rw [HW.out]
                    refine ⟨Int.pow_nonneg (by omega), ?_⟩
                    have := Pl.pow_mono (s.size + q - (t + 1)) 17 (by omega)
                    simpa using this
                  have HV1 := hide hv1
                  have HV2 := hide hv2
                  clear htD HGO hv1 hv2
                  generalize D.getD t 0 = c at *
                  generalize hy : Pl.val (D.drop (t + 1)) = y at *
                  clear hy
                  go_wp2_with fail
                  refine (F17 c _).mono ?_
                  rintro _ w' ⟨rfl, hw'⟩
                  subst w'
                  rw [Pl.dval_yes c HDD.out, HDD.out]
                  generalize hdc : Pl.dv c = d at *
                  clear hdc
                  go_wp2_with fail
                  go_roundw
                  case rel =>
                    have h1 := HV1.out
                    have h2 := HV2.out
                    have h3 := HVD.out
                    have h4 := HWB.out
                    repeat apply Exists.intro
                    refine ⟨⟨t, W * 10, rfl, ival ?_, ival ?_, ?_, by omega, by first | rfl | trivial⟩, rfl⟩
                    · rw [h3] at h1 ⊢
                      generalize d * W = z at *
                      try unfold wrap64
                      omega
                    · try unfold wrap64
                      omega
                    · rw [HW.out, show s.size + q - t = (s.size + q - (t + 1)) + 1 from by omega, Int.pow_succ]
                  case measure => (simp [intOf]; try omega)
end Go.Proofs.Qxb6600417a
