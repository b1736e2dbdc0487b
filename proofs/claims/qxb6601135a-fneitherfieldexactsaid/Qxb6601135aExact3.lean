/-
  The walk of FnEitherFieldExact: where the first list is found in the second.
-/
import Derived.Test.Qxb6601135aExact
namespace Go.Proofs.Qxb6601135a
open Go.ChangeShapes Go.WideShapes Go.ChangeAt Go.RowKit
set_option linter.unusedVariables false

set_option maxHeartbeats 2000000 in
set_option maxRecDepth 100000 in
theorem exact_sub_11 (aA aL aW aB : Option Addr) (cA cL cW cB bit : Nat) (A B : List ByteArray) (L : List Bool) (W : List Nat) (w0 : World)
    (hA : CellsIn w0 0 w0.heap.size aA (strV A)) (hL : CellsIn w0 0 w0.heap.size aL (blV L)) (hW : CellsIn w0 0 w0.heap.size aW (wdV W)) (hB : CellsIn w0 0 w0.heap.size aB (strV B))
    (hb : bit < 18446744073709551616) (hwb : ∀ x ∈ W, x < 18446744073709551616) (hLi : aL.isNone = true) (hWi : aW.isNone = true) (hne : A ≠ B) (hns : (Ef.sub A B 0).length = A.length) :
    Calls Try.prog 7 #[.slice aA A.length cA, .slice aL L.length cL, .slice aW W.length cW, .slice aB B.length cB, .int .u64 (bit : Int)] w0 fun e w' => e = .returned (.bool true) ∧ Below w0.heap.size w0 w' := by
  have HA := hide hA
  have HL := hide hL
  have HW := hide hW
  have HBB := hide hB
  have HWB := hide hwb
  have HLcase : Hid ((aL = none ∧ L = []) ∨ (∃ ad, aL = some ad) ∧ L.length = A.length) := by
    cases aL with
    | none => exact Or.inl ⟨rfl, blV_nil L (nil_of_none hL)⟩
    | some ad => cases hLi
  have HWcase : Hid ((aW = none ∧ W = []) ∨ (∃ ad, aW = some ad) ∧ W.length = A.length) := by
    cases aW with
    | none => exact Or.inl ⟨rfl, wdV_nil W (nil_of_none hW)⟩
    | some ad => cases hWi
  clear hA hL hW hB hwb
  have HNE := hide hne
  have HNS := hide hns
  clear hne hns
  have nq33 := fun (wx : World) (a : Option Addr) (n c : Nat) => run_neq_slice_nil_any (P := Try.prog) wx 33 4 a n c 0 0 Try.underlying33
  have nq34 := fun (wx : World) (a : Option Addr) (n c : Nat) => run_neq_slice_nil_any (P := Try.prog) wx 34 35 a n c 0 0 Try.underlying34
  have eq32 := fun (wx : World) (a : Option Addr) (n c : Nat) => Lib.run_eql_slice_nil (P := Try.prog) wx 32 9 a n c 0 0 Try.underlying32
  have eq33 := fun (wx : World) (a : Option Addr) (n c : Nat) => Lib.run_eql_slice_nil (P := Try.prog) wx 33 4 a n c 0 0 Try.underlying33
  have eq34 := fun (wx : World) (a : Option Addr) (n c : Nat) => Lib.run_eql_slice_nil (P := Try.prog) wx 34 35 a n c 0 0 Try.underlying34
  go_enter Try.func7, Try.ntmps7
  go_wp2_with fail
  refine (F19 aA aL aW aB cA cL cW cB _ _ _ _ A B L.length W.length bit _ HA.out HBB.out).mono ?_
  rintro _ w' ⟨r, rfl, -, hw'⟩
  subst w'
  cases r with
  | false =>
    go_wp2_with fail
    go_ret
    exact ⟨rfl, Below.refl _ _⟩
  | true =>
  go_wp2_with fail
  refine (F20 aA aL aW aB cA cL cW cB _ _ _ _ A B L.length W.length _ HA.out HBB.out).mono ?_
  rintro _ w' ⟨r, rfl, hr, hw'⟩
  subst w'
  cases r with
  | true =>
    clear hr
    go_wp2_with fail
    go_ret
    exact ⟨rfl, Below.refl _ _⟩
  | false =>
  obtain ⟨q1, q2, q3, q4⟩ := hr rfl
  clear hr
  obtain ⟨P, hP⟩ : ∃ P, P = Ef.sub A B 0 := ⟨_, rfl⟩
  have HPD := hide hP
  have HPL : Hid (P.length = A.length) := by show _ = _; rw [hP]; exact HNS.out
  have HLT : Hid (∀ p ∈ P, p < B.length) := fun p hp => by rw [hP] at hp; have := Ef.sub_lt B A 0 p hp; omega
  obtain ⟨EG, hEG⟩ : ∃ EG, EG = marksOut A B L := ⟨_, rfl⟩
  have HEGD := hide hEG
  have HEGL : Hid (B.length = EG.length) := by show _ = _; rw [hEG, marksOut_len]
  have hEGn : EG.length ≤ 70000 := by have := HEGL.out; omega
  have HMO : Hid (EG = Ef.fill (trues B.length) P (fun i => L.getD i false) A.length) := by
    show _ = _
    rw [hEG]; unfold marksOut; rw [← hP, HPL.out]
  have HVT : Hid ((blV (trues B.length)).length = B.length) := by show _ = _; rw [blV_len, trues_len]
  have HVB : Hid ((wdV (bitsL B.length bit)).length = B.length) := by show _ = _; rw [wdV_len, bitsL_len]
  clear hP hEG
  have hmk33 := make_run 33 4 (.bool false) 1 Try.underlying33 Try.info4 rfl B.length (by omega) (by omega)
  have hmk34 := make_run 34 35 (.int .u64 0) 8 Try.underlying34 Try.info35 rfl B.length (by omega) (by omega)
  have HL0 : Hid (L = []) := by
    rcases HLcase.out with ⟨_, h⟩ | ⟨⟨ad, h⟩, _⟩
    · exact h
    · rw [h] at hLi; cases hLi
  obtain ⟨EV, hEV⟩ : ∃ EV : List Nat, EV = [] := ⟨_, rfl⟩
  have HEV := hide hEV
  have HEVL : Hid (0 = EV.length) := by show _ = _; rw [hEV]; rfl
  have hEVn : EV.length ≤ 70000 := by have := HEVL.out; omega
  clear hEV
  go_wp2_with fail
  refine (F21 aA cA _ _ A _ (HA.out) (Nat.le_refl _) (by omega)).mono ?_
  rintro _ w1 ⟨a1, rfl, hn, hr, hb⟩
  have HN1 := hide hn
  have HR1 := hide hr
  have HC1 : Hid (CellsIn w1 w0.heap.size w1.heap.size a1 (strV A)) := clone_cells hr (none_of (HA.out) hn)
  have HB1 := hide hb
  have s1 := hb.size
  clear hn hr hb
  go_wp2_with fail
  refine (F22 aL cL _ _ L _ (HL.out.below HB1.out (Nat.le_refl _)) (by omega) (by omega)).mono ?_
  rintro _ w2 ⟨a2, rfl, hn, hr, hb⟩
  have HN2 := hide hn
  have HR2 := hide hr
  have HC2 : Hid (CellsIn w2 w1.heap.size w2.heap.size a2 (blV L)) := clone_cells hr (none_of (HL.out.below HB1.out (Nat.le_refl _)) hn)
  have HB2 := hide hb
  have s2 := hb.size
  clear hn hr hb
  go_wp2_with fail
  refine (F23 aW cW _ _ W _ (HW.out.below (below_trans HB1.out HB2.out) (Nat.le_refl _)) (by omega) (by omega)).mono ?_
  rintro _ w3 ⟨a3, rfl, hn, hr, hb⟩
  have HN3 := hide hn
  have HR3 := hide hr
  have HC3 : Hid (CellsIn w3 w2.heap.size w3.heap.size a3 (wdV W)) := clone_cells hr (none_of (HW.out.below (below_trans HB1.out HB2.out) (Nat.le_refl _)) hn)
  have HB3 := hide hb
  have s3 := hb.size
  clear hn hr hb
  go_wp2_with fail
  refine (F21 aB cB _ _ B _ (HBB.out.below (below_trans (below_trans HB1.out HB2.out) HB3.out) (Nat.le_refl _)) (by omega) (by omega)).mono ?_
  rintro _ w4 ⟨a4, rfl, hn, hr, hb⟩
  have HN4 := hide hn
  have HR4 := hide hr
  have HC4 : Hid (CellsIn w4 w3.heap.size w4.heap.size a4 (strV B)) := clone_cells hr (none_of (HBB.out.below (below_trans (below_trans HB1.out HB2.out) HB3.out) (Nat.le_refl _)) hn)
  have HB4 := hide hb
  have s4 := hb.size
  clear hn hr hb
  go_wp2_with fail
  refine (F21 a1 _ _ _ A _ (HC1.out.below (below_trans (below_trans HB2.out HB3.out) HB4.out) (Nat.le_refl _)) (by omega) (by omega)).mono ?_
  rintro _ w5 ⟨a5, rfl, hn, hr, hb⟩
  have HN5 := hide hn
  have HR5 := hide hr
  have HC5 : Hid (CellsIn w5 w4.heap.size w5.heap.size a5 (strV A)) := clone_cells hr (none_of (HC1.out.below (below_trans (below_trans HB2.out HB3.out) HB4.out) (Nat.le_refl _)) hn)
  have HB5 := hide hb
  have s5 := hb.size
  clear hn hr hb
  go_wp2_with fail
  refine (F22 a2 _ _ _ L _ (HC2.out.below (below_trans (below_trans HB3.out HB4.out) HB5.out) (Nat.le_refl _)) (by omega) (by omega)).mono ?_
  rintro _ w6 ⟨a6, rfl, hn, hr, hb⟩
  have HN6 := hide hn
  have HR6 := hide hr
  have HC6 : Hid (CellsIn w6 w5.heap.size w6.heap.size a6 (blV L)) := clone_cells hr (none_of (HC2.out.below (below_trans (below_trans HB3.out HB4.out) HB5.out) (Nat.le_refl _)) hn)
  have HB6 := hide hb
  have s6 := hb.size
  clear hn hr hb
  go_wp2_with fail
  refine (F23 a3 _ _ _ W _ (HC3.out.below (below_trans (below_trans HB4.out HB5.out) HB6.out) (Nat.le_refl _)) (by omega) (by omega)).mono ?_
  rintro _ w7 ⟨a7, rfl, hn, hr, hb⟩
  have HN7 := hide hn
  have HR7 := hide hr
  have HC7 : Hid (CellsIn w7 w6.heap.size w7.heap.size a7 (wdV W)) := clone_cells hr (none_of (HC3.out.below (below_trans (below_trans HB4.out HB5.out) HB6.out) (Nat.le_refl _)) hn)
  have HB7 := hide hb
  have s7 := hb.size
  clear hn hr hb
  go_wp2_with fail
  refine (F21 a4 _ _ _ B _ (HC4.out.below (below_trans (below_trans HB5.out HB6.out) HB7.out) (Nat.le_refl _)) (by omega) (by omega)).mono ?_
  rintro _ w8 ⟨a8, rfl, hn, hr, hb⟩
  have HN8 := hide hn
  have HR8 := hide hr
  have HC8 : Hid (CellsIn w8 w7.heap.size w8.heap.size a8 (strV B)) := clone_cells hr (none_of (HC4.out.below (below_trans (below_trans HB5.out HB6.out) HB7.out) (Nat.le_refl _)) hn)
  have HB8 := hide hb
  have s8 := hb.size
  clear hn hr hb
  go_wp2_with fail
  refine (F24 a5 a8 _ _ _ _ _ _ A B w8 (HC5.out.below (below_trans (below_trans HB6.out HB7.out) HB8.out) (Nat.le_refl _)) HC8.out (by omega) (by omega) (by omega) (by omega)).mono ?_
  rintro _ w9 ⟨rfl, hb9⟩
  rw [decide_eq_false HNE.out]
  have HB9 := hide hb9
  have s9 := hb9.size
  clear hb9
  have i7 : a7.isNone = true := by rw [isNone_iff HN7.out, isNone_iff HN3.out, hWi]
  go_wp2_with fail
  refine (F25 a5 a8 _ _ _ _ _ _ A B w9 (HC5.out.below (below_trans (below_trans (below_trans HB6.out HB7.out) HB8.out) HB9.out) (Nat.le_refl _)) (HC8.out.below HB9.out (Nat.le_refl _)) (by omega) (by omega) (by omega) (by omega)).mono ?_
  rintro _ w10 ⟨hb10, ⟨_, rfl, hrp⟩ | ⟨hy, _⟩⟩
  case inr => exact absurd HNS.out hy
  have HB10 := hide hb10
  have s10 := hb10.size
  have HRP : Hid (RowV w10 w9.heap.size 3 (inV P)) := by rw [HPD.out]; exact hrp
  have hlp := hrp.lt
  clear hb10 hrp
  have i6k : a6.isNone = true := by rw [isNone_iff HN6.out, isNone_iff HN2.out, hLi]
  have HEVD : Hid (EV = waysOut3 a3 A B W bit) := by
    have i3 : a3.isNone = aW.isNone := isNone_iff HN3.out
    cases e : a3 with
    | none => exact HEV.out
    | some x => rw [e, hWi] at i3; cases i3
  go_wp2_with fail
  go_loopw [27] (fun kv wr => ∃ k : Nat, k ≤ B.length ∧ kv = .int .i64 k ∧ RowV wr (w10.heap.size) 4 (part (blV (trues B.length)) (.bool false) B.length (k)) ∧ Below w10.heap.size w10 wr) (fun kv _ => B.length - (intOf kv).toNat)
  case atStart => exact ⟨0, Nat.zero_le _, rfl, by rw [part_zero]; exact RowV.fresh w10 4 _, (Below.refl _ _).alloc (Nat.le_refl _) _⟩
  case round =>
    obtain ⟨k, hk, rfl, hrow, hbel⟩ := hrel
    have HR := hide hrow
    have HBK := hide hbel
    by_cases hlt : k < B.length
    · skip
      have HVL := HVT
      have HVK : Hid ((blV (trues B.length))[k]? = some (.bool true)) := by apply blV_get; simp [trues, hlt]
      have hc := HR.out.cell k _ (part_get _ _ _ _ HVL.out (by omega))
      have hf := HR.out.frozen k
      have HS := hide (part_set (blV (trues B.length)) (.bool false) (.bool true) B.length k HVL.out HVK.out (by omega))
      clear hrow hbel
      go_wp2_with fail
      go_roundw
      case rel =>
        refine ⟨k + 1, by omega, by go_num, ?_, HBK.out.setCell (by show w10.heap.size ≤ w10.heap.size; omega) _⟩
        rw [← HS.out]; exact HR.out.set _ _
      case measure => (simp [intOf]; try omega)
    · obtain rfl : B.length = k := by omega
      obtain ⟨w11, rfl⟩ : ∃ wq : World, wq = wr := ⟨_, rfl⟩
      have hs_w11 := hbel.size
      have hl_w11 := hrow.lt
      clear hrow hbel
      have HR0 : Hid (RowV w11 w10.heap.size 4 (blV (trues B.length))) := by have h := HR.out; rw [part_all _ _ _ _ HVT.out rfl] at h; exact h
      go_wp2_with fail
      go_loopw [28] (fun kv wr => ∃ k : Nat, k ≤ A.length ∧ kv = .int .i64 k ∧ RowV wr w10.heap.size 4 (blV (Ef.fill (trues B.length) P (fun i => L.getD i false) k)) ∧ Below w10.heap.size w10 wr) (fun kv _ => A.length - (intOf kv).toNat)
      case atStart => exact ⟨0, Nat.zero_le _, rfl, HR0.out, HBK.out⟩
      case round =>
        obtain ⟨k, hk, rfl, hrow, hbel⟩ := hrel
        have HR := hide hrow
        have HBK := hide hbel
        by_cases hlt : k < A.length
        · obtain ⟨j, hj⟩ := at_some P k (by rw [HPL.out]; exact hlt)
          have hjB : j < B.length := HLT.out j (List.mem_of_getElem? hj)
          have hjB' : (j : Int) < (B.length : Int) := by omega
          have hcp := (HRP.out.below HBK.out hlp).cell k _ (inV_get P k j hj)
          obtain ⟨old, hold⟩ := at_some (Ef.fill (trues B.length) P (fun i => L.getD i false) k) j (by rw [Ef.fill_len, trues_len]; exact hjB)
          have hc := hrow.cell j _ (blV_get _ _ _ hold)
          have hf := hrow.frozen j
          have HVL : Hid (L.getD k false = false) := by rw [HL0.out]; rfl
          have HS : Hid ((blV (Ef.fill (trues B.length) P (fun i => L.getD i false) k)).set j (.bool false) = blV (Ef.fill (trues B.length) P (fun i => L.getD i false) (k + 1))) := by
            rw [blV_set]
            show _ = blV ((Ef.fill (trues B.length) P (fun i => L.getD i false) k).set (P.getD k 0) (L.getD k false))
            rw [getD_of P k j 0 hj, HVL.out]
          clear hrow hbel hj hold
          go_wp2_with fail
          go_region
          all_goals
            go_wp2_with fail
            go_roundw
            case rel =>
              refine ⟨k + 1, by omega, by go_num, ?_, ?_⟩
              · rw [← HS.out]
                exact HR.out.set _ _
              · first
                | exact (HBK.out.drew).setCell (by show w10.heap.size ≤ w10.heap.size; omega) _
                | exact (HBK.out.setCell (by show w10.heap.size ≤ w10.heap.size; omega) _).drew
            case measure => (simp [intOf]; try omega)
        · obtain rfl : A.length = k := by omega
          have HRG : Hid (RowV wr w10.heap.size 4 (blV EG)) := by rw [HMO.out]; exact hrow
          obtain ⟨w12, rfl⟩ : ∃ wq : World, wq = wr := ⟨_, rfl⟩
          have hs_w12 := hbel.size
          have hl_w12 := hrow.lt
          clear hrow hbel
          go_wp2_with fail
          have HX := hide (below_trans HB9.out (below_trans HB10.out HBK.out))
          have sx := HX.out.size
          have H1 : Hid (CellsIn w12 (0) (w2.heap.size) a1 (strV A)) := (HC1.out.below (below_trans (below_trans (below_trans (below_trans (below_trans (below_trans (below_trans HB2.out HB3.out) HB4.out) HB5.out) HB6.out) HB7.out) HB8.out) HX.out) (Nat.le_refl _)).wide (by omega) (by omega)
          have H2 : Hid (CellsIn w12 (0) (w2.heap.size) a2 (blV L)) := (HC2.out.below (below_trans (below_trans (below_trans (below_trans (below_trans (below_trans HB3.out HB4.out) HB5.out) HB6.out) HB7.out) HB8.out) HX.out) (Nat.le_refl _)).wide (by omega) (by omega)
          have H4 : Hid (CellsIn w12 (w3.heap.size) (w12.heap.size) a4 (strV B)) := (HC4.out.below (below_trans (below_trans (below_trans (below_trans HB5.out HB6.out) HB7.out) HB8.out) HX.out) (Nat.le_refl _)).wide (by omega) (by omega)
          have H5 : Hid (CellsIn w12 (w3.heap.size) (w12.heap.size) a5 (strV A)) := (HC5.out.below (below_trans (below_trans (below_trans HB6.out HB7.out) HB8.out) HX.out) (Nat.le_refl _)).wide (by omega) (by omega)
          have H6 : Hid (CellsIn w12 (w3.heap.size) (w12.heap.size) a6 (blV L)) := (HC6.out.below (below_trans (below_trans HB7.out HB8.out) HX.out) (Nat.le_refl _)).wide (by omega) (by omega)
          have H7 : Hid (CellsIn w12 (w3.heap.size) (w12.heap.size) a7 (wdV W)) := (HC7.out.below (below_trans HB8.out HX.out) (Nat.le_refl _)).wide (by omega) (by omega)
          have H8 : Hid (CellsIn w12 (w3.heap.size) (w12.heap.size) a8 (strV B)) := (HC8.out.below HX.out (Nat.le_refl _)).wide (by omega) (by omega)
          have HLc2 : Hid ((a2 = none ∧ L = []) ∨ (∃ ad, a2 = some ad) ∧ L.length = A.length) := by
            rcases HLcase.out with ⟨h, h'⟩ | ⟨⟨ad, h⟩, h'⟩
            · exact Or.inl ⟨HN2.out.2 h, h'⟩
            · refine Or.inr ⟨?_, h'⟩
              cases e : a2 with
              | none => have := HN2.out.1 e; rw [this] at h; cases h
              | some x => exact ⟨x, rfl⟩
          obtain ⟨gW, HGW⟩ : ∃ gW, Hid (w2.heap.size ≤ gW ∧ (gW < w3.heap.size ∨ w12.heap.size ≤ gW) ∧ ((a3 = none ∧ W = []) ∨ (a3 = some ⟨gW, 0, none⟩ ∧ RowV w12 gW 35 (wdV W) ∧ W.length = A.length))) := by
            rcases HWcase.out with ⟨h, h'⟩ | ⟨⟨ad, h⟩, h'⟩
            · exact ⟨w12.heap.size, by omega, Or.inr (Nat.le_refl _), Or.inl ⟨HN3.out.2 h, h'⟩⟩
            · cases e : a3 with
              | none => have := HN3.out.1 e; rw [this] at h; cases h
              | some x =>
                obtain ⟨rfl, hrow⟩ := HR3.out x e
                have hl := hrow.lt
                exact ⟨w2.heap.size, Nat.le_refl _, Or.inl (by omega), Or.inr ⟨rfl, hrow.below (below_trans (below_trans (below_trans (below_trans (below_trans HB4.out HB5.out) HB6.out) HB7.out) HB8.out) HX.out) hl, h'⟩⟩
          have g1 := HGW.out.1
          have g2 := HGW.out.2.1
          have HGW0 : Hid ((a3 = none ∧ W = []) ∨ (a3 = some ⟨gW, 0, none⟩ ∧ RowV w12 gW 35 (wdV W))) := by
            rcases HGW.out.2.2 with h | ⟨h, h', _⟩
            · exact Or.inl h
            · exact Or.inr ⟨h, h'⟩
          have i2 : Hid (a2.isNone = aL.isNone) := isNone_iff HN2.out
          have i3 : Hid (a3.isNone = aW.isNone) := isNone_iff HN3.out
          have i6 : Hid (a6.isNone = a2.isNone) := isNone_iff HN6.out
          have i5 : Hid (a5.isNone = a1.isNone) := isNone_iff HN5.out
          have i8 : Hid (a8.isNone = a4.isNone) := isNone_iff HN8.out
          have HB0X := hide (below_trans (below_trans (below_trans (below_trans (below_trans (below_trans (below_trans (below_trans HB1.out HB2.out) HB3.out) HB4.out) HB5.out) HB6.out) HB7.out) HB8.out) HX.out)
          have HEF := H8
          have HEL : Hid (CellsIn w12 w3.heap.size w12.heap.size (some ⟨w10.heap.size, 0, none⟩) (blV EG)) := HRG.out.cellsAll.wide (by omega) HRG.out.lt
          have HEW : Hid (CellsIn w12 w3.heap.size w12.heap.size none (wdV EV)) := by rw [HEV.out]; exact CellsIn.nil _ _ _ _
          clear HRG HR HBK
          go_wp2_with (first | (go_at_call 26; go_in) | fail)
          refine (ex3 a1 a2 a3 a4 gW _ _ _ _ _ _ bit _ A B L W w12 H1.out H4.out H2.out (by omega) (by omega) (by omega) (by omega) (by omega) (by omega) hb HWB.out HLc2.out HGW.out.2.2 HNE.out HNS.out EG EV HEGD.out HEVD.out HEVL.out).mono ?_
          rintro _ wy ⟨aF, cF, aG, cG, aV, cV, rfl, hcF, hcG, hcV, hnF, hnG, hnV, hgr, hcW⟩
          have HF := hide hcF
          have HG := hide hcG
          have HV := hide hcV
          have HWA := hide hcW
          have sy := hgr.size
          have H1y := hide ((grown_keep H1.out hgr (by omega) (by omega)).wide (Nat.zero_le _) (show _ ≤ wy.heap.size by omega))
          have H2y := hide ((grown_keep H2.out hgr (by omega) (by omega)).wide (Nat.zero_le _) (show _ ≤ wy.heap.size by omega))
          have H4y := hide ((grown_keep H4.out hgr (by omega) (by omega)).wide (Nat.zero_le _) (show _ ≤ wy.heap.size by omega))
          have H5y := hide ((grown_keep H5.out hgr (by omega) (by omega)).wide (Nat.zero_le _) (show _ ≤ wy.heap.size by omega))
          have H6y := hide ((grown_keep H6.out hgr (by omega) (by omega)).wide (Nat.zero_le _) (show _ ≤ wy.heap.size by omega))
          have H7y := hide ((grown_keep H7.out hgr (by omega) (by omega)).wide (Nat.zero_le _) (show _ ≤ wy.heap.size by omega))
          have H8y := hide ((grown_keep H8.out hgr (by omega) (by omega)).wide (Nat.zero_le _) (show _ ≤ wy.heap.size by omega))
          have HEFy := hide ((grown_keep HEF.out hgr (by omega) (by omega)).wide (Nat.zero_le _) (show _ ≤ wy.heap.size by omega))
          have HELy := hide ((grown_keep HEL.out hgr (by omega) (by omega)).wide (Nat.zero_le _) (show _ ≤ wy.heap.size by omega))
          have HEWy := hide ((grown_keep HEW.out hgr (by omega) (by omega)).wide (Nat.zero_le _) (show _ ≤ wy.heap.size by omega))
          have HBY := hide (HB0X.out.grown hgr (by omega) (fun k hk => by cases hk; omega))
          have qF : aF.isNone = a8.isNone := by rw [hnF, i8.out]
          have qG : aG.isNone = false := hnG
          have qV : aV.isNone = true := by rw [hnV, i3.out, hWi]
          clear hcF hcG hcV hcW hnF hnG hnV hgr HGW HGW0 g1 g2 HLc2 HC1 HC2 HC3 HC4 HC5 HC6 HC7 HC8 HR1 HR2 HR3 HR4 HR5 HR6 HR7 HR8 HB1 HB2 HB3 HB4 HB5 HB6 HB7 HB8 HN1 HN2 HN3 HN4 HN5 HN6 HN7 HN8 HA HL HW HBB H1 H2 H4 H5 H6 H7 H8 HEF HEL HEW HX HB0X
          cases hq : a8.isNone
          all_goals
            rw [hq] at qF
            go_wp2_with fail
            refine (S24 aF a8 _ _ _ _ _ _ _ _ B wy HF.out HEFy.out (by omega) (by omega) (by omega) rfl rfl).mono ?_
            rintro _ u1 ⟨rfl, hb1⟩
            have HU1 := hide (hb1)
            have su1 := hb1.size
            clear hb1
            go_wp2_with fail
            refine (S27 aG (some ⟨w10.heap.size, 0, none⟩) _ _ _ _ _ _ _ _ EG u1 (HG.out.below HU1.out (Nat.le_refl _)) (HELy.out.below HU1.out (Nat.le_refl _)) (by omega) (by omega) (by omega) HEGL.out HEGL.out).mono ?_
            rintro _ u2 ⟨rfl, hb2⟩
            have HU2 := hide (below_trans HU1.out hb2)
            have su2 := hb2.size
            clear hb2
            go_wp2_with fail
            refine (S28 aV none _ _ _ _ _ _ _ _ EV u2 (HV.out.below HU2.out (Nat.le_refl _)) (HEWy.out.below HU2.out (Nat.le_refl _)) (by omega) (by omega) (by omega) HEVL.out HEVL.out).mono ?_
            rintro _ u3 ⟨rfl, hb3⟩
            have HU3 := hide (below_trans HU2.out hb3)
            have su3 := hb3.size
            clear hb3
            go_wp2_with fail
            refine (S24 a1 a5 _ _ _ _ _ _ _ _ A u3 (H1y.out.below HU3.out (Nat.le_refl _)) (H5y.out.below HU3.out (Nat.le_refl _)) (by omega) (by omega) (by omega) rfl rfl).mono ?_
            rintro _ u4 ⟨rfl, hb4⟩
            have HU4 := hide (below_trans HU3.out hb4)
            have su4 := hb4.size
            clear hb4
            go_wp2_with fail
            refine (S27 a2 a6 _ _ _ _ _ _ _ _ L u4 (H2y.out.below HU4.out (Nat.le_refl _)) (H6y.out.below HU4.out (Nat.le_refl _)) (by omega) (by omega) (by omega) rfl rfl).mono ?_
            rintro _ u5 ⟨rfl, hb5⟩
            have HU5 := hide (below_trans HU4.out hb5)
            have su5 := hb5.size
            clear hb5
            go_wp2_with fail
            refine (S24 a4 a8 _ _ _ _ _ _ _ _ B u5 (H4y.out.below HU5.out (Nat.le_refl _)) (H8y.out.below HU5.out (Nat.le_refl _)) (by omega) (by omega) (by omega) rfl rfl).mono ?_
            rintro _ u6 ⟨rfl, hb6⟩
            have HU6 := hide (below_trans HU5.out hb6)
            have su6 := hb6.size
            clear hb6
            go_wp2_with fail
            refine (S28 a3 a7 _ _ _ _ _ _ _ _ W u6 (HWA.out.below HU6.out (Nat.le_refl _)) (H7y.out.below HU6.out (Nat.le_refl _)) (by omega) (by omega) (by omega) rfl rfl).mono ?_
            rintro _ u7 ⟨rfl, hb7⟩
            have HU7 := hide (below_trans HU6.out hb7)
            have su7 := hb7.size
            clear hb7
            go_wp2_with fail
            go_ret
            exact ⟨rfl, HBY.out.trans (HU7.out.mono (by omega))⟩

set_option maxHeartbeats 2000000 in
set_option maxRecDepth 100000 in
theorem exact_sub_10 (aA aL aW aB : Option Addr) (cA cL cW cB bit : Nat) (A B : List ByteArray) (L : List Bool) (W : List Nat) (w0 : World)
    (hA : CellsIn w0 0 w0.heap.size aA (strV A)) (hL : CellsIn w0 0 w0.heap.size aL (blV L)) (hW : CellsIn w0 0 w0.heap.size aW (wdV W)) (hB : CellsIn w0 0 w0.heap.size aB (strV B))
    (hb : bit < 18446744073709551616) (hwb : ∀ x ∈ W, x < 18446744073709551616) (hLi : aL.isNone = true) (hWi : aW.isNone = false) (hWe : W.length = A.length) (hne : A ≠ B) (hns : (Ef.sub A B 0).length = A.length) :
    Calls Try.prog 7 #[.slice aA A.length cA, .slice aL L.length cL, .slice aW W.length cW, .slice aB B.length cB, .int .u64 (bit : Int)] w0 fun e w' => e = .returned (.bool true) ∧ Below w0.heap.size w0 w' := by
  have HA := hide hA
  have HL := hide hL
  have HW := hide hW
  have HBB := hide hB
  have HWB := hide hwb
  have HLcase : Hid ((aL = none ∧ L = []) ∨ (∃ ad, aL = some ad) ∧ L.length = A.length) := by
    cases aL with
    | none => exact Or.inl ⟨rfl, blV_nil L (nil_of_none hL)⟩
    | some ad => cases hLi
  have HWcase : Hid ((aW = none ∧ W = []) ∨ (∃ ad, aW = some ad) ∧ W.length = A.length) := by
    cases aW with
    | none => exact Or.inl ⟨rfl, wdV_nil W (nil_of_none hW)⟩
    | some ad => exact Or.inr ⟨⟨ad, rfl⟩, hWe⟩
  have hWb : ((W.length : Int) != (A.length : Int)) = false := by simp; omega
  clear hWe
  clear hA hL hW hB hwb
  have HNE := hide hne
  have HNS := hide hns
  clear hne hns
  have nq33 := fun (wx : World) (a : Option Addr) (n c : Nat) => run_neq_slice_nil_any (P := Try.prog) wx 33 4 a n c 0 0 Try.underlying33
  have nq34 := fun (wx : World) (a : Option Addr) (n c : Nat) => run_neq_slice_nil_any (P := Try.prog) wx 34 35 a n c 0 0 Try.underlying34
  have eq32 := fun (wx : World) (a : Option Addr) (n c : Nat) => Lib.run_eql_slice_nil (P := Try.prog) wx 32 9 a n c 0 0 Try.underlying32
  have eq33 := fun (wx : World) (a : Option Addr) (n c : Nat) => Lib.run_eql_slice_nil (P := Try.prog) wx 33 4 a n c 0 0 Try.underlying33
  have eq34 := fun (wx : World) (a : Option Addr) (n c : Nat) => Lib.run_eql_slice_nil (P := Try.prog) wx 34 35 a n c 0 0 Try.underlying34
  go_enter Try.func7, Try.ntmps7
  go_wp2_with fail
  refine (F19 aA aL aW aB cA cL cW cB _ _ _ _ A B L.length W.length bit _ HA.out HBB.out).mono ?_
  rintro _ w' ⟨r, rfl, -, hw'⟩
  subst w'
  cases r with
  | false =>
    go_wp2_with fail
    go_ret
    exact ⟨rfl, Below.refl _ _⟩
  | true =>
  go_wp2_with fail
  refine (F20 aA aL aW aB cA cL cW cB _ _ _ _ A B L.length W.length _ HA.out HBB.out).mono ?_
  rintro _ w' ⟨r, rfl, hr, hw'⟩
  subst w'
  cases r with
  | true =>
    clear hr
    go_wp2_with fail
    go_ret
    exact ⟨rfl, Below.refl _ _⟩
  | false =>
  obtain ⟨q1, q2, q3, q4⟩ := hr rfl
  clear hr
  obtain ⟨P, hP⟩ : ∃ P, P = Ef.sub A B 0 := ⟨_, rfl⟩
  have HPD := hide hP
  have HPL : Hid (P.length = A.length) := by show _ = _; rw [hP]; exact HNS.out
  have HLT : Hid (∀ p ∈ P, p < B.length) := fun p hp => by rw [hP] at hp; have := Ef.sub_lt B A 0 p hp; omega
  obtain ⟨EG, hEG⟩ : ∃ EG, EG = marksOut A B L := ⟨_, rfl⟩
  have HEGD := hide hEG
  have HEGL : Hid (B.length = EG.length) := by show _ = _; rw [hEG, marksOut_len]
  have hEGn : EG.length ≤ 70000 := by have := HEGL.out; omega
  have HMO : Hid (EG = Ef.fill (trues B.length) P (fun i => L.getD i false) A.length) := by
    show _ = _
    rw [hEG]; unfold marksOut; rw [← hP, HPL.out]
  have HVT : Hid ((blV (trues B.length)).length = B.length) := by show _ = _; rw [blV_len, trues_len]
  have HVB : Hid ((wdV (bitsL B.length bit)).length = B.length) := by show _ = _; rw [wdV_len, bitsL_len]
  clear hP hEG
  have hmk33 := make_run 33 4 (.bool false) 1 Try.underlying33 Try.info4 rfl B.length (by omega) (by omega)
  have hmk34 := make_run 34 35 (.int .u64 0) 8 Try.underlying34 Try.info35 rfl B.length (by omega) (by omega)
  have HL0 : Hid (L = []) := by
    rcases HLcase.out with ⟨_, h⟩ | ⟨⟨ad, h⟩, _⟩
    · exact h
    · rw [h] at hLi; cases hLi
  have HWL : Hid (W.length = A.length) := by
    rcases HWcase.out with ⟨h, _⟩ | ⟨_, h⟩
    · rw [h] at hWi; cases hWi
    · exact h
  obtain ⟨EV, hEV⟩ : ∃ EV : List Nat, EV = Ef.fillW (bitsL B.length bit) P W A.length := ⟨_, rfl⟩
  have HEV := hide hEV
  have HEVL : Hid (B.length = EV.length) := by show _ = _; rw [hEV, Ef.fillW_len, bitsL_len]
  have hEVn : EV.length ≤ 70000 := by have := HEVL.out; omega
  clear hEV
  go_wp2_with fail
  refine (F21 aA cA _ _ A _ (HA.out) (Nat.le_refl _) (by omega)).mono ?_
  rintro _ w1 ⟨a1, rfl, hn, hr, hb⟩
  have HN1 := hide hn
  have HR1 := hide hr
  have HC1 : Hid (CellsIn w1 w0.heap.size w1.heap.size a1 (strV A)) := clone_cells hr (none_of (HA.out) hn)
  have HB1 := hide hb
  have s1 := hb.size
  clear hn hr hb
  go_wp2_with fail
  refine (F22 aL cL _ _ L _ (HL.out.below HB1.out (Nat.le_refl _)) (by omega) (by omega)).mono ?_
  rintro _ w2 ⟨a2, rfl, hn, hr, hb⟩
  have HN2 := hide hn
  have HR2 := hide hr
  have HC2 : Hid (CellsIn w2 w1.heap.size w2.heap.size a2 (blV L)) := clone_cells hr (none_of (HL.out.below HB1.out (Nat.le_refl _)) hn)
  have HB2 := hide hb
  have s2 := hb.size
  clear hn hr hb
  go_wp2_with fail
  refine (F23 aW cW _ _ W _ (HW.out.below (below_trans HB1.out HB2.out) (Nat.le_refl _)) (by omega) (by omega)).mono ?_
  rintro _ w3 ⟨a3, rfl, hn, hr, hb⟩
  have HN3 := hide hn
  have HR3 := hide hr
  have HC3 : Hid (CellsIn w3 w2.heap.size w3.heap.size a3 (wdV W)) := clone_cells hr (none_of (HW.out.below (below_trans HB1.out HB2.out) (Nat.le_refl _)) hn)
  have HB3 := hide hb
  have s3 := hb.size
  clear hn hr hb
  go_wp2_with fail
  refine (F21 aB cB _ _ B _ (HBB.out.below (below_trans (below_trans HB1.out HB2.out) HB3.out) (Nat.le_refl _)) (by omega) (by omega)).mono ?_
  rintro _ w4 ⟨a4, rfl, hn, hr, hb⟩
  have HN4 := hide hn
  have HR4 := hide hr
  have HC4 : Hid (CellsIn w4 w3.heap.size w4.heap.size a4 (strV B)) := clone_cells hr (none_of (HBB.out.below (below_trans (below_trans HB1.out HB2.out) HB3.out) (Nat.le_refl _)) hn)
  have HB4 := hide hb
  have s4 := hb.size
  clear hn hr hb
  go_wp2_with fail
  refine (F21 a1 _ _ _ A _ (HC1.out.below (below_trans (below_trans HB2.out HB3.out) HB4.out) (Nat.le_refl _)) (by omega) (by omega)).mono ?_
  rintro _ w5 ⟨a5, rfl, hn, hr, hb⟩
  have HN5 := hide hn
  have HR5 := hide hr
  have HC5 : Hid (CellsIn w5 w4.heap.size w5.heap.size a5 (strV A)) := clone_cells hr (none_of (HC1.out.below (below_trans (below_trans HB2.out HB3.out) HB4.out) (Nat.le_refl _)) hn)
  have HB5 := hide hb
  have s5 := hb.size
  clear hn hr hb
  go_wp2_with fail
  refine (F22 a2 _ _ _ L _ (HC2.out.below (below_trans (below_trans HB3.out HB4.out) HB5.out) (Nat.le_refl _)) (by omega) (by omega)).mono ?_
  rintro _ w6 ⟨a6, rfl, hn, hr, hb⟩
  have HN6 := hide hn
  have HR6 := hide hr
  have HC6 : Hid (CellsIn w6 w5.heap.size w6.heap.size a6 (blV L)) := clone_cells hr (none_of (HC2.out.below (below_trans (below_trans HB3.out HB4.out) HB5.out) (Nat.le_refl _)) hn)
  have HB6 := hide hb
  have s6 := hb.size
  clear hn hr hb
  go_wp2_with fail
  refine (F23 a3 _ _ _ W _ (HC3.out.below (below_trans (below_trans HB4.out HB5.out) HB6.out) (Nat.le_refl _)) (by omega) (by omega)).mono ?_
  rintro _ w7 ⟨a7, rfl, hn, hr, hb⟩
  have HN7 := hide hn
  have HR7 := hide hr
  have HC7 : Hid (CellsIn w7 w6.heap.size w7.heap.size a7 (wdV W)) := clone_cells hr (none_of (HC3.out.below (below_trans (below_trans HB4.out HB5.out) HB6.out) (Nat.le_refl _)) hn)
  have HB7 := hide hb
  have s7 := hb.size
  clear hn hr hb
  go_wp2_with fail
  refine (F21 a4 _ _ _ B _ (HC4.out.below (below_trans (below_trans HB5.out HB6.out) HB7.out) (Nat.le_refl _)) (by omega) (by omega)).mono ?_
  rintro _ w8 ⟨a8, rfl, hn, hr, hb⟩
  have HN8 := hide hn
  have HR8 := hide hr
  have HC8 : Hid (CellsIn w8 w7.heap.size w8.heap.size a8 (strV B)) := clone_cells hr (none_of (HC4.out.below (below_trans (below_trans HB5.out HB6.out) HB7.out) (Nat.le_refl _)) hn)
  have HB8 := hide hb
  have s8 := hb.size
  clear hn hr hb
  go_wp2_with fail
  refine (F24 a5 a8 _ _ _ _ _ _ A B w8 (HC5.out.below (below_trans (below_trans HB6.out HB7.out) HB8.out) (Nat.le_refl _)) HC8.out (by omega) (by omega) (by omega) (by omega)).mono ?_
  rintro _ w9 ⟨rfl, hb9⟩
  rw [decide_eq_false HNE.out]
  have HB9 := hide hb9
  have s9 := hb9.size
  clear hb9
  have i7 : a7.isNone = false := by rw [isNone_iff HN7.out, isNone_iff HN3.out, hWi]
  go_wp2_with fail
  refine (F25 a5 a8 _ _ _ _ _ _ A B w9 (HC5.out.below (below_trans (below_trans (below_trans HB6.out HB7.out) HB8.out) HB9.out) (Nat.le_refl _)) (HC8.out.below HB9.out (Nat.le_refl _)) (by omega) (by omega) (by omega) (by omega)).mono ?_
  rintro _ w10 ⟨hb10, ⟨_, rfl, hrp⟩ | ⟨hy, _⟩⟩
  case inr => exact absurd HNS.out hy
  have HB10 := hide hb10
  have s10 := hb10.size
  have HRP : Hid (RowV w10 w9.heap.size 3 (inV P)) := by rw [HPD.out]; exact hrp
  have hlp := hrp.lt
  clear hb10 hrp
  have i6k : a6.isNone = true := by rw [isNone_iff HN6.out, isNone_iff HN2.out, hLi]
  have HEVD : Hid (EV = waysOut3 a3 A B W bit) := by
    have i3 : a3.isNone = aW.isNone := isNone_iff HN3.out
    cases e : a3 with
    | none => rw [e, hWi] at i3; cases i3
    | some x => (show EV = Ef.fillW (bitsL B.length bit) (Ef.sub A B 0) W (Ef.sub A B 0).length; rw [← HPD.out, HPL.out]; exact HEV.out)
  go_wp2_with fail
  go_loopw [27] (fun kv wr => ∃ k : Nat, k ≤ B.length ∧ kv = .int .i64 k ∧ RowV wr (w10.heap.size) 4 (part (blV (trues B.length)) (.bool false) B.length (k)) ∧ Below w10.heap.size w10 wr) (fun kv _ => B.length - (intOf kv).toNat)
  case atStart => exact ⟨0, Nat.zero_le _, rfl, by rw [part_zero]; exact RowV.fresh w10 4 _, (Below.refl _ _).alloc (Nat.le_refl _) _⟩
  case round =>
    obtain ⟨k, hk, rfl, hrow, hbel⟩ := hrel
    have HR := hide hrow
    have HBK := hide hbel
    by_cases hlt : k < B.length
    · skip
      have HVL := HVT
      have HVK : Hid ((blV (trues B.length))[k]? = some (.bool true)) := by apply blV_get; simp [trues, hlt]
      have hc := HR.out.cell k _ (part_get _ _ _ _ HVL.out (by omega))
      have hf := HR.out.frozen k
      have HS := hide (part_set (blV (trues B.length)) (.bool false) (.bool true) B.length k HVL.out HVK.out (by omega))
      clear hrow hbel
      go_wp2_with fail
      go_roundw
      case rel =>
        refine ⟨k + 1, by omega, by go_num, ?_, HBK.out.setCell (by show w10.heap.size ≤ w10.heap.size; omega) _⟩
        rw [← HS.out]; exact HR.out.set _ _
      case measure => (simp [intOf]; try omega)
    · obtain rfl : B.length = k := by omega
      obtain ⟨w11, rfl⟩ : ∃ wq : World, wq = wr := ⟨_, rfl⟩
      have hs_w11 := hbel.size
      have hl_w11 := hrow.lt
      clear hrow hbel
      have HR0 : Hid (RowV w11 w10.heap.size 4 (blV (trues B.length))) := by have h := HR.out; rw [part_all _ _ _ _ HVT.out rfl] at h; exact h
      go_wp2_with fail
      go_loopw [28] (fun kv wr => ∃ k : Nat, k ≤ A.length ∧ kv = .int .i64 k ∧ RowV wr w10.heap.size 4 (blV (Ef.fill (trues B.length) P (fun i => L.getD i false) k)) ∧ Below w10.heap.size w10 wr) (fun kv _ => A.length - (intOf kv).toNat)
      case atStart => exact ⟨0, Nat.zero_le _, rfl, HR0.out, HBK.out⟩
      case round =>
        obtain ⟨k, hk, rfl, hrow, hbel⟩ := hrel
        have HR := hide hrow
        have HBK := hide hbel
        by_cases hlt : k < A.length
        · obtain ⟨j, hj⟩ := at_some P k (by rw [HPL.out]; exact hlt)
          have hjB : j < B.length := HLT.out j (List.mem_of_getElem? hj)
          have hjB' : (j : Int) < (B.length : Int) := by omega
          have hcp := (HRP.out.below HBK.out hlp).cell k _ (inV_get P k j hj)
          obtain ⟨old, hold⟩ := at_some (Ef.fill (trues B.length) P (fun i => L.getD i false) k) j (by rw [Ef.fill_len, trues_len]; exact hjB)
          have hc := hrow.cell j _ (blV_get _ _ _ hold)
          have hf := hrow.frozen j
          have HVL : Hid (L.getD k false = false) := by rw [HL0.out]; rfl
          have HS : Hid ((blV (Ef.fill (trues B.length) P (fun i => L.getD i false) k)).set j (.bool false) = blV (Ef.fill (trues B.length) P (fun i => L.getD i false) (k + 1))) := by
            rw [blV_set]
            show _ = blV ((Ef.fill (trues B.length) P (fun i => L.getD i false) k).set (P.getD k 0) (L.getD k false))
            rw [getD_of P k j 0 hj, HVL.out]
          clear hrow hbel hj hold
          go_wp2_with fail
          go_region
          all_goals
            go_wp2_with fail
            go_roundw
            case rel =>
              refine ⟨k + 1, by omega, by go_num, ?_, ?_⟩
              · rw [← HS.out]
                exact HR.out.set _ _
              · first
                | exact (HBK.out.drew).setCell (by show w10.heap.size ≤ w10.heap.size; omega) _
                | exact (HBK.out.setCell (by show w10.heap.size ≤ w10.heap.size; omega) _).drew
            case measure => (simp [intOf]; try omega)
        · obtain rfl : A.length = k := by omega
          have HRG : Hid (RowV wr w10.heap.size 4 (blV EG)) := by rw [HMO.out]; exact hrow
          obtain ⟨w12, rfl⟩ : ∃ wq : World, wq = wr := ⟨_, rfl⟩
          have hs_w12 := hbel.size
          have hl_w12 := hrow.lt
          clear hrow hbel
          go_wp2_with fail
          go_loopw [29] (fun kv wr => ∃ k : Nat, k ≤ B.length ∧ kv = .int .i64 k ∧ RowV wr (w12.heap.size) 35 (part (wdV (bitsL B.length bit)) (.int .u64 0) B.length (k)) ∧ RowV wr (w10.heap.size) 4 (blV EG) ∧ Below w10.heap.size w10 wr) (fun kv _ => B.length - (intOf kv).toNat)
          case atStart => exact ⟨0, Nat.zero_le _, rfl, by rw [part_zero]; exact RowV.fresh w12 35 _, HRG.out.alloc _, HBK.out.alloc (by omega) _⟩
          case round =>
            obtain ⟨k, hk, rfl, hrow, hst0, hbel⟩ := hrel
            have HR := hide hrow
            have HST0 := hide hst0
            have HBK := hide hbel
            by_cases hlt : k < B.length
            · skip
              have HVL := HVB
              have HVK : Hid ((wdV (bitsL B.length bit))[k]? = some (.int .u64 (bit : Int))) := by apply wdV_get; simp [bitsL, hlt]
              have hc := HR.out.cell k _ (part_get _ _ _ _ HVL.out (by omega))
              have hf := HR.out.frozen k
              have HS := hide (part_set (wdV (bitsL B.length bit)) (.int .u64 0) (.int .u64 (bit : Int)) B.length k HVL.out HVK.out (by omega))
              clear hrow hbel hst0
              go_wp2_with fail
              go_roundw
              case rel =>
                refine ⟨k + 1, by omega, by go_num, ?_, HST0.out.other _ _ (by show w10.heap.size ≠ w12.heap.size; omega), HBK.out.setCell (by show w10.heap.size ≤ w12.heap.size; omega) _⟩
                rw [← HS.out]; exact HR.out.set _ _
              case measure => (simp [intOf]; try omega)
            · obtain rfl : B.length = k := by omega
              obtain ⟨w13, rfl⟩ : ∃ wq : World, wq = wr := ⟨_, rfl⟩
              have hs_w13 := hbel.size
              have hl_w13 := hrow.lt
              have hl0_w13 := hst0.lt
              clear hrow hbel hst0
              have HRB : Hid (RowV w13 w12.heap.size 35 (wdV (bitsL B.length bit))) := by have h := HR.out; rw [part_all _ _ _ _ HVB.out rfl] at h; exact h
              go_wp2_with fail
              go_loopw [30] (fun kv wr => ∃ k : Nat, k ≤ A.length ∧ kv = .int .i64 k ∧ RowV wr w12.heap.size 35 (wdV (Ef.fillW (bitsL B.length bit) P W k)) ∧ RowV wr w10.heap.size 4 (blV EG) ∧ Below w10.heap.size w10 wr) (fun kv _ => A.length - (intOf kv).toNat)
              case atStart => exact ⟨0, Nat.zero_le _, rfl, HRB.out, HST0.out, HBK.out⟩
              case round =>
                obtain ⟨k, hk, rfl, hrow, hst0, hbel⟩ := hrel
                have HR := hide hrow
                have HST0 := hide hst0
                have HBK := hide hbel
                by_cases hlt : k < A.length
                · obtain ⟨j, hj⟩ := at_some P k (by rw [HPL.out]; exact hlt)
                  have hjB : j < B.length := HLT.out j (List.mem_of_getElem? hj)
                  have hjB' : (j : Int) < (B.length : Int) := by omega
                  have hcp := (HRP.out.below HBK.out hlp).cell k _ (inV_get P k j hj)
                  obtain ⟨x, hx⟩ := at_some (Ef.fillW (bitsL B.length bit) P W k) j (by rw [Ef.fillW_len, bitsL_len]; exact hjB)
                  obtain ⟨y, hy⟩ := at_some W k (by rw [HWL.out]; exact hlt)
                  have hkW : (k : Int) < (W.length : Int) := by have := HWL.out; omega
                  have hcx := hrow.cell j _ (wdV_get _ _ _ hx)
                  have hf := hrow.frozen j
                  obtain ⟨gy, oy, rfl, _, _, hcy⟩ := (HC7.out.below (below_trans HB8.out (below_trans HB9.out (below_trans HB10.out HBK.out))) (Nat.le_refl _)) k _ (wdV_get W k y hy)
                  have HOR : Hid (bits .or .u64 (x : Int) (y : Int) = ((x ||| y : Nat) : Int)) := u64_or_nat x y (fillW_lt _ P W (bitsL_lt _ _ hb) HWB.out k x (List.mem_of_getElem? hx)) (HWB.out y (List.mem_of_getElem? hy))
                  have HS : Hid ((wdV (Ef.fillW (bitsL B.length bit) P W k)).set j (.int .u64 ((x ||| y : Nat) : Int)) = wdV (Ef.fillW (bitsL B.length bit) P W (k + 1))) := by
                    rw [wdV_set]
                    show _ = wdV ((Ef.fillW (bitsL B.length bit) P W k).set (P.getD k 0) ((Ef.fillW (bitsL B.length bit) P W k).getD (P.getD k 0) 0 ||| W.getD k 0))
                    rw [getD_of P k j 0 hj, getD_of _ j x 0 hx, getD_of W k y 0 hy]
                  clear hrow hst0 hbel hj hx hy
                  go_wp2_with fail
                  go_region
                  all_goals
                    go_wp2_with fail
                    go_roundw
                    case rel =>
                      refine ⟨k + 1, by omega, by go_num, ?_, ?_, ?_⟩
                      · rw [← HS.out, HOR.out]
                        exact HR.out.set _ _
                      · exact HST0.out.other _ _ (by show w10.heap.size ≠ w12.heap.size; omega)
                      · first
                        | exact (HBK.out.drew).setCell (by show w10.heap.size ≤ w12.heap.size; omega) _
                        | exact (HBK.out.setCell (by show w10.heap.size ≤ w12.heap.size; omega) _).drew
                    case measure => (simp [intOf]; try omega)
                · obtain rfl : A.length = k := by omega
                  have HRV : Hid (RowV wr w12.heap.size 35 (wdV EV)) := by rw [HEV.out]; exact hrow
                  have HRG := HST0
                  obtain ⟨w14, rfl⟩ : ∃ wq : World, wq = wr := ⟨_, rfl⟩
                  have hs_w14 := hbel.size
                  have hl_w14 := hrow.lt
                  clear hrow hst0 hbel
                  go_wp2_with fail
                  have HX := hide (below_trans HB9.out (below_trans HB10.out HBK.out))
                  have sx := HX.out.size
                  have H1 : Hid (CellsIn w14 (0) (w2.heap.size) a1 (strV A)) := (HC1.out.below (below_trans (below_trans (below_trans (below_trans (below_trans (below_trans (below_trans HB2.out HB3.out) HB4.out) HB5.out) HB6.out) HB7.out) HB8.out) HX.out) (Nat.le_refl _)).wide (by omega) (by omega)
                  have H2 : Hid (CellsIn w14 (0) (w2.heap.size) a2 (blV L)) := (HC2.out.below (below_trans (below_trans (below_trans (below_trans (below_trans (below_trans HB3.out HB4.out) HB5.out) HB6.out) HB7.out) HB8.out) HX.out) (Nat.le_refl _)).wide (by omega) (by omega)
                  have H4 : Hid (CellsIn w14 (w3.heap.size) (w14.heap.size) a4 (strV B)) := (HC4.out.below (below_trans (below_trans (below_trans (below_trans HB5.out HB6.out) HB7.out) HB8.out) HX.out) (Nat.le_refl _)).wide (by omega) (by omega)
                  have H5 : Hid (CellsIn w14 (w3.heap.size) (w14.heap.size) a5 (strV A)) := (HC5.out.below (below_trans (below_trans (below_trans HB6.out HB7.out) HB8.out) HX.out) (Nat.le_refl _)).wide (by omega) (by omega)
                  have H6 : Hid (CellsIn w14 (w3.heap.size) (w14.heap.size) a6 (blV L)) := (HC6.out.below (below_trans (below_trans HB7.out HB8.out) HX.out) (Nat.le_refl _)).wide (by omega) (by omega)
                  have H7 : Hid (CellsIn w14 (w3.heap.size) (w14.heap.size) a7 (wdV W)) := (HC7.out.below (below_trans HB8.out HX.out) (Nat.le_refl _)).wide (by omega) (by omega)
                  have H8 : Hid (CellsIn w14 (w3.heap.size) (w14.heap.size) a8 (strV B)) := (HC8.out.below HX.out (Nat.le_refl _)).wide (by omega) (by omega)
                  have HLc2 : Hid ((a2 = none ∧ L = []) ∨ (∃ ad, a2 = some ad) ∧ L.length = A.length) := by
                    rcases HLcase.out with ⟨h, h'⟩ | ⟨⟨ad, h⟩, h'⟩
                    · exact Or.inl ⟨HN2.out.2 h, h'⟩
                    · refine Or.inr ⟨?_, h'⟩
                      cases e : a2 with
                      | none => have := HN2.out.1 e; rw [this] at h; cases h
                      | some x => exact ⟨x, rfl⟩
                  obtain ⟨gW, HGW⟩ : ∃ gW, Hid (w2.heap.size ≤ gW ∧ (gW < w3.heap.size ∨ w14.heap.size ≤ gW) ∧ ((a3 = none ∧ W = []) ∨ (a3 = some ⟨gW, 0, none⟩ ∧ RowV w14 gW 35 (wdV W) ∧ W.length = A.length))) := by
                    rcases HWcase.out with ⟨h, h'⟩ | ⟨⟨ad, h⟩, h'⟩
                    · exact ⟨w14.heap.size, by omega, Or.inr (Nat.le_refl _), Or.inl ⟨HN3.out.2 h, h'⟩⟩
                    · cases e : a3 with
                      | none => have := HN3.out.1 e; rw [this] at h; cases h
                      | some x =>
                        obtain ⟨rfl, hrow⟩ := HR3.out x e
                        have hl := hrow.lt
                        exact ⟨w2.heap.size, Nat.le_refl _, Or.inl (by omega), Or.inr ⟨rfl, hrow.below (below_trans (below_trans (below_trans (below_trans (below_trans HB4.out HB5.out) HB6.out) HB7.out) HB8.out) HX.out) hl, h'⟩⟩
                  have g1 := HGW.out.1
                  have g2 := HGW.out.2.1
                  have HGW0 : Hid ((a3 = none ∧ W = []) ∨ (a3 = some ⟨gW, 0, none⟩ ∧ RowV w14 gW 35 (wdV W))) := by
                    rcases HGW.out.2.2 with h | ⟨h, h', _⟩
                    · exact Or.inl h
                    · exact Or.inr ⟨h, h'⟩
                  have i2 : Hid (a2.isNone = aL.isNone) := isNone_iff HN2.out
                  have i3 : Hid (a3.isNone = aW.isNone) := isNone_iff HN3.out
                  have i6 : Hid (a6.isNone = a2.isNone) := isNone_iff HN6.out
                  have i5 : Hid (a5.isNone = a1.isNone) := isNone_iff HN5.out
                  have i8 : Hid (a8.isNone = a4.isNone) := isNone_iff HN8.out
                  have HB0X := hide (below_trans (below_trans (below_trans (below_trans (below_trans (below_trans (below_trans (below_trans HB1.out HB2.out) HB3.out) HB4.out) HB5.out) HB6.out) HB7.out) HB8.out) HX.out)
                  have HEF := H8
                  have HEL : Hid (CellsIn w14 w3.heap.size w14.heap.size (some ⟨w10.heap.size, 0, none⟩) (blV EG)) := HRG.out.cellsAll.wide (by omega) HRG.out.lt
                  have HEW : Hid (CellsIn w14 w3.heap.size w14.heap.size (some ⟨w12.heap.size, 0, none⟩) (wdV EV)) := HRV.out.cellsAll.wide (by omega) HRV.out.lt
                  clear HRV
                  clear HRG HR HBK
                  go_wp2_with (first | (go_at_call 26; go_in) | fail)
                  refine (ex3 a1 a2 a3 a4 gW _ _ _ _ _ _ bit _ A B L W w14 H1.out H4.out H2.out (by omega) (by omega) (by omega) (by omega) (by omega) (by omega) hb HWB.out HLc2.out HGW.out.2.2 HNE.out HNS.out EG EV HEGD.out HEVD.out HEVL.out).mono ?_
                  rintro _ wy ⟨aF, cF, aG, cG, aV, cV, rfl, hcF, hcG, hcV, hnF, hnG, hnV, hgr, hcW⟩
                  have HF := hide hcF
                  have HG := hide hcG
                  have HV := hide hcV
                  have HWA := hide hcW
                  have sy := hgr.size
                  have H1y := hide ((grown_keep H1.out hgr (by omega) (by omega)).wide (Nat.zero_le _) (show _ ≤ wy.heap.size by omega))
                  have H2y := hide ((grown_keep H2.out hgr (by omega) (by omega)).wide (Nat.zero_le _) (show _ ≤ wy.heap.size by omega))
                  have H4y := hide ((grown_keep H4.out hgr (by omega) (by omega)).wide (Nat.zero_le _) (show _ ≤ wy.heap.size by omega))
                  have H5y := hide ((grown_keep H5.out hgr (by omega) (by omega)).wide (Nat.zero_le _) (show _ ≤ wy.heap.size by omega))
                  have H6y := hide ((grown_keep H6.out hgr (by omega) (by omega)).wide (Nat.zero_le _) (show _ ≤ wy.heap.size by omega))
                  have H7y := hide ((grown_keep H7.out hgr (by omega) (by omega)).wide (Nat.zero_le _) (show _ ≤ wy.heap.size by omega))
                  have H8y := hide ((grown_keep H8.out hgr (by omega) (by omega)).wide (Nat.zero_le _) (show _ ≤ wy.heap.size by omega))
                  have HEFy := hide ((grown_keep HEF.out hgr (by omega) (by omega)).wide (Nat.zero_le _) (show _ ≤ wy.heap.size by omega))
                  have HELy := hide ((grown_keep HEL.out hgr (by omega) (by omega)).wide (Nat.zero_le _) (show _ ≤ wy.heap.size by omega))
                  have HEWy := hide ((grown_keep HEW.out hgr (by omega) (by omega)).wide (Nat.zero_le _) (show _ ≤ wy.heap.size by omega))
                  have HBY := hide (HB0X.out.grown hgr (by omega) (fun k hk => by cases hk; omega))
                  have qF : aF.isNone = a8.isNone := by rw [hnF, i8.out]
                  have qG : aG.isNone = false := hnG
                  have qV : aV.isNone = false := by rw [hnV, i3.out, hWi]
                  clear hcF hcG hcV hcW hnF hnG hnV hgr HGW HGW0 g1 g2 HLc2 HC1 HC2 HC3 HC4 HC5 HC6 HC7 HC8 HR1 HR2 HR3 HR4 HR5 HR6 HR7 HR8 HB1 HB2 HB3 HB4 HB5 HB6 HB7 HB8 HN1 HN2 HN3 HN4 HN5 HN6 HN7 HN8 HA HL HW HBB H1 H2 H4 H5 H6 H7 H8 HEF HEL HEW HX HB0X
                  cases hq : a8.isNone
                  all_goals
                    rw [hq] at qF
                    go_wp2_with fail
                    refine (S24 aF a8 _ _ _ _ _ _ _ _ B wy HF.out HEFy.out (by omega) (by omega) (by omega) rfl rfl).mono ?_
                    rintro _ u1 ⟨rfl, hb1⟩
                    have HU1 := hide (hb1)
                    have su1 := hb1.size
                    clear hb1
                    go_wp2_with fail
                    refine (S27 aG (some ⟨w10.heap.size, 0, none⟩) _ _ _ _ _ _ _ _ EG u1 (HG.out.below HU1.out (Nat.le_refl _)) (HELy.out.below HU1.out (Nat.le_refl _)) (by omega) (by omega) (by omega) HEGL.out HEGL.out).mono ?_
                    rintro _ u2 ⟨rfl, hb2⟩
                    have HU2 := hide (below_trans HU1.out hb2)
                    have su2 := hb2.size
                    clear hb2
                    go_wp2_with fail
                    refine (S28 aV (some ⟨w12.heap.size, 0, none⟩) _ _ _ _ _ _ _ _ EV u2 (HV.out.below HU2.out (Nat.le_refl _)) (HEWy.out.below HU2.out (Nat.le_refl _)) (by omega) (by omega) (by omega) HEVL.out HEVL.out).mono ?_
                    rintro _ u3 ⟨rfl, hb3⟩
                    have HU3 := hide (below_trans HU2.out hb3)
                    have su3 := hb3.size
                    clear hb3
                    go_wp2_with fail
                    refine (S24 a1 a5 _ _ _ _ _ _ _ _ A u3 (H1y.out.below HU3.out (Nat.le_refl _)) (H5y.out.below HU3.out (Nat.le_refl _)) (by omega) (by omega) (by omega) rfl rfl).mono ?_
                    rintro _ u4 ⟨rfl, hb4⟩
                    have HU4 := hide (below_trans HU3.out hb4)
                    have su4 := hb4.size
                    clear hb4
                    go_wp2_with fail
                    refine (S27 a2 a6 _ _ _ _ _ _ _ _ L u4 (H2y.out.below HU4.out (Nat.le_refl _)) (H6y.out.below HU4.out (Nat.le_refl _)) (by omega) (by omega) (by omega) rfl rfl).mono ?_
                    rintro _ u5 ⟨rfl, hb5⟩
                    have HU5 := hide (below_trans HU4.out hb5)
                    have su5 := hb5.size
                    clear hb5
                    go_wp2_with fail
                    refine (S24 a4 a8 _ _ _ _ _ _ _ _ B u5 (H4y.out.below HU5.out (Nat.le_refl _)) (H8y.out.below HU5.out (Nat.le_refl _)) (by omega) (by omega) (by omega) rfl rfl).mono ?_
                    rintro _ u6 ⟨rfl, hb6⟩
                    have HU6 := hide (below_trans HU5.out hb6)
                    have su6 := hb6.size
                    clear hb6
                    go_wp2_with fail
                    refine (S28 a3 a7 _ _ _ _ _ _ _ _ W u6 (HWA.out.below HU6.out (Nat.le_refl _)) (H7y.out.below HU6.out (Nat.le_refl _)) (by omega) (by omega) (by omega) rfl rfl).mono ?_
                    rintro _ u7 ⟨rfl, hb7⟩
                    have HU7 := hide (below_trans HU6.out hb7)
                    have su7 := hb7.size
                    clear hb7
                    go_wp2_with fail
                    go_ret
                    exact ⟨rfl, HBY.out.trans (HU7.out.mono (by omega))⟩

set_option maxHeartbeats 2000000 in
set_option maxRecDepth 100000 in
theorem exact_sub_01 (aA aL aW aB : Option Addr) (cA cL cW cB bit : Nat) (A B : List ByteArray) (L : List Bool) (W : List Nat) (w0 : World)
    (hA : CellsIn w0 0 w0.heap.size aA (strV A)) (hL : CellsIn w0 0 w0.heap.size aL (blV L)) (hW : CellsIn w0 0 w0.heap.size aW (wdV W)) (hB : CellsIn w0 0 w0.heap.size aB (strV B))
    (hb : bit < 18446744073709551616) (hwb : ∀ x ∈ W, x < 18446744073709551616) (hLi : aL.isNone = false) (hLe : L.length = A.length) (hWi : aW.isNone = true) (hne : A ≠ B) (hns : (Ef.sub A B 0).length = A.length) :
    Calls Try.prog 7 #[.slice aA A.length cA, .slice aL L.length cL, .slice aW W.length cW, .slice aB B.length cB, .int .u64 (bit : Int)] w0 fun e w' => e = .returned (.bool true) ∧ Below w0.heap.size w0 w' := by
  have HA := hide hA
  have HL := hide hL
  have HW := hide hW
  have HBB := hide hB
  have HWB := hide hwb
  have HLcase : Hid ((aL = none ∧ L = []) ∨ (∃ ad, aL = some ad) ∧ L.length = A.length) := by
    cases aL with
    | none => exact Or.inl ⟨rfl, blV_nil L (nil_of_none hL)⟩
    | some ad => exact Or.inr ⟨⟨ad, rfl⟩, hLe⟩
  have HWcase : Hid ((aW = none ∧ W = []) ∨ (∃ ad, aW = some ad) ∧ W.length = A.length) := by
    cases aW with
    | none => exact Or.inl ⟨rfl, wdV_nil W (nil_of_none hW)⟩
    | some ad => cases hWi
  have hLb : ((L.length : Int) != (A.length : Int)) = false := by simp; omega
  clear hLe
  clear hA hL hW hB hwb
  have HNE := hide hne
  have HNS := hide hns
  clear hne hns
  have nq33 := fun (wx : World) (a : Option Addr) (n c : Nat) => run_neq_slice_nil_any (P := Try.prog) wx 33 4 a n c 0 0 Try.underlying33
  have nq34 := fun (wx : World) (a : Option Addr) (n c : Nat) => run_neq_slice_nil_any (P := Try.prog) wx 34 35 a n c 0 0 Try.underlying34
  have eq32 := fun (wx : World) (a : Option Addr) (n c : Nat) => Lib.run_eql_slice_nil (P := Try.prog) wx 32 9 a n c 0 0 Try.underlying32
  have eq33 := fun (wx : World) (a : Option Addr) (n c : Nat) => Lib.run_eql_slice_nil (P := Try.prog) wx 33 4 a n c 0 0 Try.underlying33
  have eq34 := fun (wx : World) (a : Option Addr) (n c : Nat) => Lib.run_eql_slice_nil (P := Try.prog) wx 34 35 a n c 0 0 Try.underlying34
  go_enter Try.func7, Try.ntmps7
  go_wp2_with fail
  refine (F19 aA aL aW aB cA cL cW cB _ _ _ _ A B L.length W.length bit _ HA.out HBB.out).mono ?_
  rintro _ w' ⟨r, rfl, -, hw'⟩
  subst w'
  cases r with
  | false =>
    go_wp2_with fail
    go_ret
    exact ⟨rfl, Below.refl _ _⟩
  | true =>
  go_wp2_with fail
  refine (F20 aA aL aW aB cA cL cW cB _ _ _ _ A B L.length W.length _ HA.out HBB.out).mono ?_
  rintro _ w' ⟨r, rfl, hr, hw'⟩
  subst w'
  cases r with
  | true =>
    clear hr
    go_wp2_with fail
    go_ret
    exact ⟨rfl, Below.refl _ _⟩
  | false =>
  obtain ⟨q1, q2, q3, q4⟩ := hr rfl
  clear hr
  obtain ⟨P, hP⟩ : ∃ P, P = Ef.sub A B 0 := ⟨_, rfl⟩
  have HPD := hide hP
  have HPL : Hid (P.length = A.length) := by show _ = _; rw [hP]; exact HNS.out
  have HLT : Hid (∀ p ∈ P, p < B.length) := fun p hp => by rw [hP] at hp; have := Ef.sub_lt B A 0 p hp; omega
  obtain ⟨EG, hEG⟩ : ∃ EG, EG = marksOut A B L := ⟨_, rfl⟩
  have HEGD := hide hEG
  have HEGL : Hid (B.length = EG.length) := by show _ = _; rw [hEG, marksOut_len]
  have hEGn : EG.length ≤ 70000 := by have := HEGL.out; omega
  have HMO : Hid (EG = Ef.fill (trues B.length) P (fun i => L.getD i false) A.length) := by
    show _ = _
    rw [hEG]; unfold marksOut; rw [← hP, HPL.out]
  have HVT : Hid ((blV (trues B.length)).length = B.length) := by show _ = _; rw [blV_len, trues_len]
  have HVB : Hid ((wdV (bitsL B.length bit)).length = B.length) := by show _ = _; rw [wdV_len, bitsL_len]
  clear hP hEG
  have hmk33 := make_run 33 4 (.bool false) 1 Try.underlying33 Try.info4 rfl B.length (by omega) (by omega)
  have hmk34 := make_run 34 35 (.int .u64 0) 8 Try.underlying34 Try.info35 rfl B.length (by omega) (by omega)
  have HLL : Hid (L.length = A.length) := by
    rcases HLcase.out with ⟨h, _⟩ | ⟨_, h⟩
    · rw [h] at hLi; cases hLi
    · exact h
  obtain ⟨EV, hEV⟩ : ∃ EV : List Nat, EV = [] := ⟨_, rfl⟩
  have HEV := hide hEV
  have HEVL : Hid (0 = EV.length) := by show _ = _; rw [hEV]; rfl
  have hEVn : EV.length ≤ 70000 := by have := HEVL.out; omega
  clear hEV
  go_wp2_with fail
  refine (F21 aA cA _ _ A _ (HA.out) (Nat.le_refl _) (by omega)).mono ?_
  rintro _ w1 ⟨a1, rfl, hn, hr, hb⟩
  have HN1 := hide hn
  have HR1 := hide hr
  have HC1 : Hid (CellsIn w1 w0.heap.size w1.heap.size a1 (strV A)) := clone_cells hr (none_of (HA.out) hn)
  have HB1 := hide hb
  have s1 := hb.size
  clear hn hr hb
  go_wp2_with fail
  refine (F22 aL cL _ _ L _ (HL.out.below HB1.out (Nat.le_refl _)) (by omega) (by omega)).mono ?_
  rintro _ w2 ⟨a2, rfl, hn, hr, hb⟩
  have HN2 := hide hn
  have HR2 := hide hr
  have HC2 : Hid (CellsIn w2 w1.heap.size w2.heap.size a2 (blV L)) := clone_cells hr (none_of (HL.out.below HB1.out (Nat.le_refl _)) hn)
  have HB2 := hide hb
  have s2 := hb.size
  clear hn hr hb
  go_wp2_with fail
  refine (F23 aW cW _ _ W _ (HW.out.below (below_trans HB1.out HB2.out) (Nat.le_refl _)) (by omega) (by omega)).mono ?_
  rintro _ w3 ⟨a3, rfl, hn, hr, hb⟩
  have HN3 := hide hn
  have HR3 := hide hr
  have HC3 : Hid (CellsIn w3 w2.heap.size w3.heap.size a3 (wdV W)) := clone_cells hr (none_of (HW.out.below (below_trans HB1.out HB2.out) (Nat.le_refl _)) hn)
  have HB3 := hide hb
  have s3 := hb.size
  clear hn hr hb
  go_wp2_with fail
  refine (F21 aB cB _ _ B _ (HBB.out.below (below_trans (below_trans HB1.out HB2.out) HB3.out) (Nat.le_refl _)) (by omega) (by omega)).mono ?_
  rintro _ w4 ⟨a4, rfl, hn, hr, hb⟩
  have HN4 := hide hn
  have HR4 := hide hr
  have HC4 : Hid (CellsIn w4 w3.heap.size w4.heap.size a4 (strV B)) := clone_cells hr (none_of (HBB.out.below (below_trans (below_trans HB1.out HB2.out) HB3.out) (Nat.le_refl _)) hn)
  have HB4 := hide hb
  have s4 := hb.size
  clear hn hr hb
  go_wp2_with fail
  refine (F21 a1 _ _ _ A _ (HC1.out.below (below_trans (below_trans HB2.out HB3.out) HB4.out) (Nat.le_refl _)) (by omega) (by omega)).mono ?_
  rintro _ w5 ⟨a5, rfl, hn, hr, hb⟩
  have HN5 := hide hn
  have HR5 := hide hr
  have HC5 : Hid (CellsIn w5 w4.heap.size w5.heap.size a5 (strV A)) := clone_cells hr (none_of (HC1.out.below (below_trans (below_trans HB2.out HB3.out) HB4.out) (Nat.le_refl _)) hn)
  have HB5 := hide hb
  have s5 := hb.size
  clear hn hr hb
  go_wp2_with fail
  refine (F22 a2 _ _ _ L _ (HC2.out.below (below_trans (below_trans HB3.out HB4.out) HB5.out) (Nat.le_refl _)) (by omega) (by omega)).mono ?_
  rintro _ w6 ⟨a6, rfl, hn, hr, hb⟩
  have HN6 := hide hn
  have HR6 := hide hr
  have HC6 : Hid (CellsIn w6 w5.heap.size w6.heap.size a6 (blV L)) := clone_cells hr (none_of (HC2.out.below (below_trans (below_trans HB3.out HB4.out) HB5.out) (Nat.le_refl _)) hn)
  have HB6 := hide hb
  have s6 := hb.size
  clear hn hr hb
  go_wp2_with fail
  refine (F23 a3 _ _ _ W _ (HC3.out.below (below_trans (below_trans HB4.out HB5.out) HB6.out) (Nat.le_refl _)) (by omega) (by omega)).mono ?_
  rintro _ w7 ⟨a7, rfl, hn, hr, hb⟩
  have HN7 := hide hn
  have HR7 := hide hr
  have HC7 : Hid (CellsIn w7 w6.heap.size w7.heap.size a7 (wdV W)) := clone_cells hr (none_of (HC3.out.below (below_trans (below_trans HB4.out HB5.out) HB6.out) (Nat.le_refl _)) hn)
  have HB7 := hide hb
  have s7 := hb.size
  clear hn hr hb
  go_wp2_with fail
  refine (F21 a4 _ _ _ B _ (HC4.out.below (below_trans (below_trans HB5.out HB6.out) HB7.out) (Nat.le_refl _)) (by omega) (by omega)).mono ?_
  rintro _ w8 ⟨a8, rfl, hn, hr, hb⟩
  have HN8 := hide hn
  have HR8 := hide hr
  have HC8 : Hid (CellsIn w8 w7.heap.size w8.heap.size a8 (strV B)) := clone_cells hr (none_of (HC4.out.below (below_trans (below_trans HB5.out HB6.out) HB7.out) (Nat.le_refl _)) hn)
  have HB8 := hide hb
  have s8 := hb.size
  clear hn hr hb
  go_wp2_with fail
  refine (F24 a5 a8 _ _ _ _ _ _ A B w8 (HC5.out.below (below_trans (below_trans HB6.out HB7.out) HB8.out) (Nat.le_refl _)) HC8.out (by omega) (by omega) (by omega) (by omega)).mono ?_
  rintro _ w9 ⟨rfl, hb9⟩
  rw [decide_eq_false HNE.out]
  have HB9 := hide hb9
  have s9 := hb9.size
  clear hb9
  have i7 : a7.isNone = true := by rw [isNone_iff HN7.out, isNone_iff HN3.out, hWi]
  go_wp2_with fail
  refine (F25 a5 a8 _ _ _ _ _ _ A B w9 (HC5.out.below (below_trans (below_trans (below_trans HB6.out HB7.out) HB8.out) HB9.out) (Nat.le_refl _)) (HC8.out.below HB9.out (Nat.le_refl _)) (by omega) (by omega) (by omega) (by omega)).mono ?_
  rintro _ w10 ⟨hb10, ⟨_, rfl, hrp⟩ | ⟨hy, _⟩⟩
  case inr => exact absurd HNS.out hy
  have HB10 := hide hb10
  have s10 := hb10.size
  have HRP : Hid (RowV w10 w9.heap.size 3 (inV P)) := by rw [HPD.out]; exact hrp
  have hlp := hrp.lt
  clear hb10 hrp
  have i6k : a6.isNone = false := by rw [isNone_iff HN6.out, isNone_iff HN2.out, hLi]
  have HEVD : Hid (EV = waysOut3 a3 A B W bit) := by
    have i3 : a3.isNone = aW.isNone := isNone_iff HN3.out
    cases e : a3 with
    | none => exact HEV.out
    | some x => rw [e, hWi] at i3; cases i3
  go_wp2_with fail
  go_loopw [27] (fun kv wr => ∃ k : Nat, k ≤ B.length ∧ kv = .int .i64 k ∧ RowV wr (w10.heap.size) 4 (part (blV (trues B.length)) (.bool false) B.length (k)) ∧ Below w10.heap.size w10 wr) (fun kv _ => B.length - (intOf kv).toNat)
  case atStart => exact ⟨0, Nat.zero_le _, rfl, by rw [part_zero]; exact RowV.fresh w10 4 _, (Below.refl _ _).alloc (Nat.le_refl _) _⟩
  case round =>
    obtain ⟨k, hk, rfl, hrow, hbel⟩ := hrel
    have HR := hide hrow
    have HBK := hide hbel
    by_cases hlt : k < B.length
    · skip
      have HVL := HVT
      have HVK : Hid ((blV (trues B.length))[k]? = some (.bool true)) := by apply blV_get; simp [trues, hlt]
      have hc := HR.out.cell k _ (part_get _ _ _ _ HVL.out (by omega))
      have hf := HR.out.frozen k
      have HS := hide (part_set (blV (trues B.length)) (.bool false) (.bool true) B.length k HVL.out HVK.out (by omega))
      clear hrow hbel
      go_wp2_with fail
      go_roundw
      case rel =>
        refine ⟨k + 1, by omega, by go_num, ?_, HBK.out.setCell (by show w10.heap.size ≤ w10.heap.size; omega) _⟩
        rw [← HS.out]; exact HR.out.set _ _
      case measure => (simp [intOf]; try omega)
    · obtain rfl : B.length = k := by omega
      obtain ⟨w11, rfl⟩ : ∃ wq : World, wq = wr := ⟨_, rfl⟩
      have hs_w11 := hbel.size
      have hl_w11 := hrow.lt
      clear hrow hbel
      have HR0 : Hid (RowV w11 w10.heap.size 4 (blV (trues B.length))) := by have h := HR.out; rw [part_all _ _ _ _ HVT.out rfl] at h; exact h
      go_wp2_with fail
      go_loopw [28] (fun kv wr => ∃ k : Nat, k ≤ A.length ∧ kv = .int .i64 k ∧ RowV wr w10.heap.size 4 (blV (Ef.fill (trues B.length) P (fun i => L.getD i false) k)) ∧ Below w10.heap.size w10 wr) (fun kv _ => A.length - (intOf kv).toNat)
      case atStart => exact ⟨0, Nat.zero_le _, rfl, HR0.out, HBK.out⟩
      case round =>
        obtain ⟨k, hk, rfl, hrow, hbel⟩ := hrel
        have HR := hide hrow
        have HBK := hide hbel
        by_cases hlt : k < A.length
        · obtain ⟨j, hj⟩ := at_some P k (by rw [HPL.out]; exact hlt)
          have hjB : j < B.length := HLT.out j (List.mem_of_getElem? hj)
          have hjB' : (j : Int) < (B.length : Int) := by omega
          have hcp := (HRP.out.below HBK.out hlp).cell k _ (inV_get P k j hj)
          obtain ⟨old, hold⟩ := at_some (Ef.fill (trues B.length) P (fun i => L.getD i false) k) j (by rw [Ef.fill_len, trues_len]; exact hjB)
          have hc := hrow.cell j _ (blV_get _ _ _ hold)
          have hf := hrow.frozen j
          obtain ⟨lv, hlv⟩ := at_some L k (by rw [HLL.out]; exact hlt)
          obtain ⟨gl, ol, rfl, _, _, hcl⟩ := (HC6.out.below (below_trans (below_trans HB7.out HB8.out) (below_trans HB9.out (below_trans HB10.out HBK.out))) (Nat.le_refl _)) k _ (blV_get L k lv hlv)
          have hkL : (k : Int) < (L.length : Int) := by have := HLL.out; omega
          have HVL : Hid (L.getD k false = lv) := getD_of L k lv false hlv
          clear hlv
          have HS : Hid ((blV (Ef.fill (trues B.length) P (fun i => L.getD i false) k)).set j (.bool lv) = blV (Ef.fill (trues B.length) P (fun i => L.getD i false) (k + 1))) := by
            rw [blV_set]
            show _ = blV ((Ef.fill (trues B.length) P (fun i => L.getD i false) k).set (P.getD k 0) (L.getD k false))
            rw [getD_of P k j 0 hj, HVL.out]
          clear hrow hbel hj hold
          go_wp2_with fail
          go_region
          all_goals
            go_wp2_with fail
            go_roundw
            case rel =>
              refine ⟨k + 1, by omega, by go_num, ?_, ?_⟩
              · rw [← HS.out]
                exact HR.out.set _ _
              · first
                | exact (HBK.out.drew).setCell (by show w10.heap.size ≤ w10.heap.size; omega) _
                | exact (HBK.out.setCell (by show w10.heap.size ≤ w10.heap.size; omega) _).drew
            case measure => (simp [intOf]; try omega)
        · obtain rfl : A.length = k := by omega
          have HRG : Hid (RowV wr w10.heap.size 4 (blV EG)) := by rw [HMO.out]; exact hrow
          obtain ⟨w12, rfl⟩ : ∃ wq : World, wq = wr := ⟨_, rfl⟩
          have hs_w12 := hbel.size
          have hl_w12 := hrow.lt
          clear hrow hbel
          go_wp2_with fail
          have HX := hide (below_trans HB9.out (below_trans HB10.out HBK.out))
          have sx := HX.out.size
          have H1 : Hid (CellsIn w12 (0) (w2.heap.size) a1 (strV A)) := (HC1.out.below (below_trans (below_trans (below_trans (below_trans (below_trans (below_trans (below_trans HB2.out HB3.out) HB4.out) HB5.out) HB6.out) HB7.out) HB8.out) HX.out) (Nat.le_refl _)).wide (by omega) (by omega)
          have H2 : Hid (CellsIn w12 (0) (w2.heap.size) a2 (blV L)) := (HC2.out.below (below_trans (below_trans (below_trans (below_trans (below_trans (below_trans HB3.out HB4.out) HB5.out) HB6.out) HB7.out) HB8.out) HX.out) (Nat.le_refl _)).wide (by omega) (by omega)
          have H4 : Hid (CellsIn w12 (w3.heap.size) (w12.heap.size) a4 (strV B)) := (HC4.out.below (below_trans (below_trans (below_trans (below_trans HB5.out HB6.out) HB7.out) HB8.out) HX.out) (Nat.le_refl _)).wide (by omega) (by omega)
          have H5 : Hid (CellsIn w12 (w3.heap.size) (w12.heap.size) a5 (strV A)) := (HC5.out.below (below_trans (below_trans (below_trans HB6.out HB7.out) HB8.out) HX.out) (Nat.le_refl _)).wide (by omega) (by omega)
          have H6 : Hid (CellsIn w12 (w3.heap.size) (w12.heap.size) a6 (blV L)) := (HC6.out.below (below_trans (below_trans HB7.out HB8.out) HX.out) (Nat.le_refl _)).wide (by omega) (by omega)
          have H7 : Hid (CellsIn w12 (w3.heap.size) (w12.heap.size) a7 (wdV W)) := (HC7.out.below (below_trans HB8.out HX.out) (Nat.le_refl _)).wide (by omega) (by omega)
          have H8 : Hid (CellsIn w12 (w3.heap.size) (w12.heap.size) a8 (strV B)) := (HC8.out.below HX.out (Nat.le_refl _)).wide (by omega) (by omega)
          have HLc2 : Hid ((a2 = none ∧ L = []) ∨ (∃ ad, a2 = some ad) ∧ L.length = A.length) := by
            rcases HLcase.out with ⟨h, h'⟩ | ⟨⟨ad, h⟩, h'⟩
            · exact Or.inl ⟨HN2.out.2 h, h'⟩
            · refine Or.inr ⟨?_, h'⟩
              cases e : a2 with
              | none => have := HN2.out.1 e; rw [this] at h; cases h
              | some x => exact ⟨x, rfl⟩
          obtain ⟨gW, HGW⟩ : ∃ gW, Hid (w2.heap.size ≤ gW ∧ (gW < w3.heap.size ∨ w12.heap.size ≤ gW) ∧ ((a3 = none ∧ W = []) ∨ (a3 = some ⟨gW, 0, none⟩ ∧ RowV w12 gW 35 (wdV W) ∧ W.length = A.length))) := by
            rcases HWcase.out with ⟨h, h'⟩ | ⟨⟨ad, h⟩, h'⟩
            · exact ⟨w12.heap.size, by omega, Or.inr (Nat.le_refl _), Or.inl ⟨HN3.out.2 h, h'⟩⟩
            · cases e : a3 with
              | none => have := HN3.out.1 e; rw [this] at h; cases h
              | some x =>
                obtain ⟨rfl, hrow⟩ := HR3.out x e
                have hl := hrow.lt
                exact ⟨w2.heap.size, Nat.le_refl _, Or.inl (by omega), Or.inr ⟨rfl, hrow.below (below_trans (below_trans (below_trans (below_trans (below_trans HB4.out HB5.out) HB6.out) HB7.out) HB8.out) HX.out) hl, h'⟩⟩
          have g1 := HGW.out.1
          have g2 := HGW.out.2.1
          have HGW0 : Hid ((a3 = none ∧ W = []) ∨ (a3 = some ⟨gW, 0, none⟩ ∧ RowV w12 gW 35 (wdV W))) := by
            rcases HGW.out.2.2 with h | ⟨h, h', _⟩
            · exact Or.inl h
            · exact Or.inr ⟨h, h'⟩
          have i2 : Hid (a2.isNone = aL.isNone) := isNone_iff HN2.out
          have i3 : Hid (a3.isNone = aW.isNone) := isNone_iff HN3.out
          have i6 : Hid (a6.isNone = a2.isNone) := isNone_iff HN6.out
          have i5 : Hid (a5.isNone = a1.isNone) := isNone_iff HN5.out
          have i8 : Hid (a8.isNone = a4.isNone) := isNone_iff HN8.out
          have HB0X := hide (below_trans (below_trans (below_trans (below_trans (below_trans (below_trans (below_trans (below_trans HB1.out HB2.out) HB3.out) HB4.out) HB5.out) HB6.out) HB7.out) HB8.out) HX.out)
          have HEF := H8
          have HEL : Hid (CellsIn w12 w3.heap.size w12.heap.size (some ⟨w10.heap.size, 0, none⟩) (blV EG)) := HRG.out.cellsAll.wide (by omega) HRG.out.lt
          have HEW : Hid (CellsIn w12 w3.heap.size w12.heap.size none (wdV EV)) := by rw [HEV.out]; exact CellsIn.nil _ _ _ _
          clear HRG HR HBK
          go_wp2_with (first | (go_at_call 26; go_in) | fail)
          refine (ex3 a1 a2 a3 a4 gW _ _ _ _ _ _ bit _ A B L W w12 H1.out H4.out H2.out (by omega) (by omega) (by omega) (by omega) (by omega) (by omega) hb HWB.out HLc2.out HGW.out.2.2 HNE.out HNS.out EG EV HEGD.out HEVD.out HEVL.out).mono ?_
          rintro _ wy ⟨aF, cF, aG, cG, aV, cV, rfl, hcF, hcG, hcV, hnF, hnG, hnV, hgr, hcW⟩
          have HF := hide hcF
          have HG := hide hcG
          have HV := hide hcV
          have HWA := hide hcW
          have sy := hgr.size
          have H1y := hide ((grown_keep H1.out hgr (by omega) (by omega)).wide (Nat.zero_le _) (show _ ≤ wy.heap.size by omega))
          have H2y := hide ((grown_keep H2.out hgr (by omega) (by omega)).wide (Nat.zero_le _) (show _ ≤ wy.heap.size by omega))
          have H4y := hide ((grown_keep H4.out hgr (by omega) (by omega)).wide (Nat.zero_le _) (show _ ≤ wy.heap.size by omega))
          have H5y := hide ((grown_keep H5.out hgr (by omega) (by omega)).wide (Nat.zero_le _) (show _ ≤ wy.heap.size by omega))
          have H6y := hide ((grown_keep H6.out hgr (by omega) (by omega)).wide (Nat.zero_le _) (show _ ≤ wy.heap.size by omega))
          have H7y := hide ((grown_keep H7.out hgr (by omega) (by omega)).wide (Nat.zero_le _) (show _ ≤ wy.heap.size by omega))
          have H8y := hide ((grown_keep H8.out hgr (by omega) (by omega)).wide (Nat.zero_le _) (show _ ≤ wy.heap.size by omega))
          have HEFy := hide ((grown_keep HEF.out hgr (by omega) (by omega)).wide (Nat.zero_le _) (show _ ≤ wy.heap.size by omega))
          have HELy := hide ((grown_keep HEL.out hgr (by omega) (by omega)).wide (Nat.zero_le _) (show _ ≤ wy.heap.size by omega))
          have HEWy := hide ((grown_keep HEW.out hgr (by omega) (by omega)).wide (Nat.zero_le _) (show _ ≤ wy.heap.size by omega))
          have HBY := hide (HB0X.out.grown hgr (by omega) (fun k hk => by cases hk; omega))
          have qF : aF.isNone = a8.isNone := by rw [hnF, i8.out]
          have qG : aG.isNone = false := hnG
          have qV : aV.isNone = true := by rw [hnV, i3.out, hWi]
          clear hcF hcG hcV hcW hnF hnG hnV hgr HGW HGW0 g1 g2 HLc2 HC1 HC2 HC3 HC4 HC5 HC6 HC7 HC8 HR1 HR2 HR3 HR4 HR5 HR6 HR7 HR8 HB1 HB2 HB3 HB4 HB5 HB6 HB7 HB8 HN1 HN2 HN3 HN4 HN5 HN6 HN7 HN8 HA HL HW HBB H1 H2 H4 H5 H6 H7 H8 HEF HEL HEW HX HB0X
          cases hq : a8.isNone
          all_goals
            rw [hq] at qF
            go_wp2_with fail
            refine (S24 aF a8 _ _ _ _ _ _ _ _ B wy HF.out HEFy.out (by omega) (by omega) (by omega) rfl rfl).mono ?_
            rintro _ u1 ⟨rfl, hb1⟩
            have HU1 := hide (hb1)
            have su1 := hb1.size
            clear hb1
            go_wp2_with fail
            refine (S27 aG (some ⟨w10.heap.size, 0, none⟩) _ _ _ _ _ _ _ _ EG u1 (HG.out.below HU1.out (Nat.le_refl _)) (HELy.out.below HU1.out (Nat.le_refl _)) (by omega) (by omega) (by omega) HEGL.out HEGL.out).mono ?_
            rintro _ u2 ⟨rfl, hb2⟩
            have HU2 := hide (below_trans HU1.out hb2)
            have su2 := hb2.size
            clear hb2
            go_wp2_with fail
            refine (S28 aV none _ _ _ _ _ _ _ _ EV u2 (HV.out.below HU2.out (Nat.le_refl _)) (HEWy.out.below HU2.out (Nat.le_refl _)) (by omega) (by omega) (by omega) HEVL.out HEVL.out).mono ?_
            rintro _ u3 ⟨rfl, hb3⟩
            have HU3 := hide (below_trans HU2.out hb3)
            have su3 := hb3.size
            clear hb3
            go_wp2_with fail
            refine (S24 a1 a5 _ _ _ _ _ _ _ _ A u3 (H1y.out.below HU3.out (Nat.le_refl _)) (H5y.out.below HU3.out (Nat.le_refl _)) (by omega) (by omega) (by omega) rfl rfl).mono ?_
            rintro _ u4 ⟨rfl, hb4⟩
            have HU4 := hide (below_trans HU3.out hb4)
            have su4 := hb4.size
            clear hb4
            go_wp2_with fail
            refine (S27 a2 a6 _ _ _ _ _ _ _ _ L u4 (H2y.out.below HU4.out (Nat.le_refl _)) (H6y.out.below HU4.out (Nat.le_refl _)) (by omega) (by omega) (by omega) rfl rfl).mono ?_
            rintro _ u5 ⟨rfl, hb5⟩
            have HU5 := hide (below_trans HU4.out hb5)
            have su5 := hb5.size
            clear hb5
            go_wp2_with fail
            refine (S24 a4 a8 _ _ _ _ _ _ _ _ B u5 (H4y.out.below HU5.out (Nat.le_refl _)) (H8y.out.below HU5.out (Nat.le_refl _)) (by omega) (by omega) (by omega) rfl rfl).mono ?_
            rintro _ u6 ⟨rfl, hb6⟩
            have HU6 := hide (below_trans HU5.out hb6)
            have su6 := hb6.size
            clear hb6
            go_wp2_with fail
            refine (S28 a3 a7 _ _ _ _ _ _ _ _ W u6 (HWA.out.below HU6.out (Nat.le_refl _)) (H7y.out.below HU6.out (Nat.le_refl _)) (by omega) (by omega) (by omega) rfl rfl).mono ?_
            rintro _ u7 ⟨rfl, hb7⟩
            have HU7 := hide (below_trans HU6.out hb7)
            have su7 := hb7.size
            clear hb7
            go_wp2_with fail
            go_ret
            exact ⟨rfl, HBY.out.trans (HU7.out.mono (by omega))⟩

set_option maxHeartbeats 2000000 in
set_option maxRecDepth 100000 in
theorem exact_sub_00 (aA aL aW aB : Option Addr) (cA cL cW cB bit : Nat) (A B : List ByteArray) (L : List Bool) (W : List Nat) (w0 : World)
    (hA : CellsIn w0 0 w0.heap.size aA (strV A)) (hL : CellsIn w0 0 w0.heap.size aL (blV L)) (hW : CellsIn w0 0 w0.heap.size aW (wdV W)) (hB : CellsIn w0 0 w0.heap.size aB (strV B))
    (hb : bit < 18446744073709551616) (hwb : ∀ x ∈ W, x < 18446744073709551616) (hLi : aL.isNone = false) (hLe : L.length = A.length) (hWi : aW.isNone = false) (hWe : W.length = A.length) (hne : A ≠ B) (hns : (Ef.sub A B 0).length = A.length) :
    Calls Try.prog 7 #[.slice aA A.length cA, .slice aL L.length cL, .slice aW W.length cW, .slice aB B.length cB, .int .u64 (bit : Int)] w0 fun e w' => e = .returned (.bool true) ∧ Below w0.heap.size w0 w' := by
  have HA := hide hA
  have HL := hide hL
  have HW := hide hW
  have HBB := hide hB
  have HWB := hide hwb
  have HLcase : Hid ((aL = none ∧ L = []) ∨ (∃ ad, aL = some ad) ∧ L.length = A.length) := by
    cases aL with
    | none => exact Or.inl ⟨rfl, blV_nil L (nil_of_none hL)⟩
    | some ad => exact Or.inr ⟨⟨ad, rfl⟩, hLe⟩
  have HWcase : Hid ((aW = none ∧ W = []) ∨ (∃ ad, aW = some ad) ∧ W.length = A.length) := by
    cases aW with
    | none => exact Or.inl ⟨rfl, wdV_nil W (nil_of_none hW)⟩
    | some ad => exact Or.inr ⟨⟨ad, rfl⟩, hWe⟩
  have hLb : ((L.length : Int) != (A.length : Int)) = false := by simp; omega
  clear hLe
  have hWb : ((W.length : Int) != (A.length : Int)) = false := by simp; omega
  clear hWe
  clear hA hL hW hB hwb
  have HNE := hide hne
  have HNS := hide hns
  clear hne hns
  have nq33 := fun (wx : World) (a : Option Addr) (n c : Nat) => run_neq_slice_nil_any (P := Try.prog) wx 33 4 a n c 0 0 Try.underlying33
  have nq34 := fun (wx : World) (a : Option Addr) (n c : Nat) => run_neq_slice_nil_any (P := Try.prog) wx 34 35 a n c 0 0 Try.underlying34
  have eq32 := fun (wx : World) (a : Option Addr) (n c : Nat) => Lib.run_eql_slice_nil (P := Try.prog) wx 32 9 a n c 0 0 Try.underlying32
  have eq33 := fun (wx : World) (a : Option Addr) (n c : Nat) => Lib.run_eql_slice_nil (P := Try.prog) wx 33 4 a n c 0 0 Try.underlying33
  have eq34 := fun (wx : World) (a : Option Addr) (n c : Nat) => Lib.run_eql_slice_nil (P := Try.prog) wx 34 35 a n c 0 0 Try.underlying34
  go_enter Try.func7, Try.ntmps7
  go_wp2_with fail
  refine (F19 aA aL aW aB cA cL cW cB _ _ _ _ A B L.length W.length bit _ HA.out HBB.out).mono ?_
  rintro _ w' ⟨r, rfl, -, hw'⟩
  subst w'
  cases r with
  | false =>
    go_wp2_with fail
    go_ret
    exact ⟨rfl, Below.refl _ _⟩
  | true =>
  go_wp2_with fail
  refine (F20 aA aL aW aB cA cL cW cB _ _ _ _ A B L.length W.length _ HA.out HBB.out).mono ?_
  rintro _ w' ⟨r, rfl, hr, hw'⟩
  subst w'
  cases r with
  | true =>
    clear hr
    go_wp2_with fail
    go_ret
    exact ⟨rfl, Below.refl _ _⟩
  | false =>
  obtain ⟨q1, q2, q3, q4⟩ := hr rfl
  clear hr
  obtain ⟨P, hP⟩ : ∃ P, P = Ef.sub A B 0 := ⟨_, rfl⟩
  have HPD := hide hP
  have HPL : Hid (P.length = A.length) := by show _ = _; rw [hP]; exact HNS.out
  have HLT : Hid (∀ p ∈ P, p < B.length) := fun p hp => by rw [hP] at hp; have := Ef.sub_lt B A 0 p hp; omega
  obtain ⟨EG, hEG⟩ : ∃ EG, EG = marksOut A B L := ⟨_, rfl⟩
  have HEGD := hide hEG
  have HEGL : Hid (B.length = EG.length) := by show _ = _; rw [hEG, marksOut_len]
  have hEGn : EG.length ≤ 70000 := by have := HEGL.out; omega
  have HMO : Hid (EG = Ef.fill (trues B.length) P (fun i => L.getD i false) A.length) := by
    show _ = _
    rw [hEG]; unfold marksOut; rw [← hP, HPL.out]
  have HVT : Hid ((blV (trues B.length)).length = B.length) := by show _ = _; rw [blV_len, trues_len]
  have HVB : Hid ((wdV (bitsL B.length bit)).length = B.length) := by show _ = _; rw [wdV_len, bitsL_len]
  clear hP hEG
  have hmk33 := make_run 33 4 (.bool false) 1 Try.underlying33 Try.info4 rfl B.length (by omega) (by omega)
  have hmk34 := make_run 34 35 (.int .u64 0) 8 Try.underlying34 Try.info35 rfl B.length (by omega) (by omega)
  have HLL : Hid (L.length = A.length) := by
    rcases HLcase.out with ⟨h, _⟩ | ⟨_, h⟩
    · rw [h] at hLi; cases hLi
    · exact h
  have HWL : Hid (W.length = A.length) := by
    rcases HWcase.out with ⟨h, _⟩ | ⟨_, h⟩
    · rw [h] at hWi; cases hWi
    · exact h
  obtain ⟨EV, hEV⟩ : ∃ EV : List Nat, EV = Ef.fillW (bitsL B.length bit) P W A.length := ⟨_, rfl⟩
  have HEV := hide hEV
  have HEVL : Hid (B.length = EV.length) := by show _ = _; rw [hEV, Ef.fillW_len, bitsL_len]
  have hEVn : EV.length ≤ 70000 := by have := HEVL.out; omega
  clear hEV
  go_wp2_with fail
  refine (F21 aA cA _ _ A _ (HA.out) (Nat.le_refl _) (by omega)).mono ?_
  rintro _ w1 ⟨a1, rfl, hn, hr, hb⟩
  have HN1 := hide hn
  have HR1 := hide hr
  have HC1 : Hid (CellsIn w1 w0.heap.size w1.heap.size a1 (strV A)) := clone_cells hr (none_of (HA.out) hn)
  have HB1 := hide hb
  have s1 := hb.size
  clear hn hr hb
  go_wp2_with fail
  refine (F22 aL cL _ _ L _ (HL.out.below HB1.out (Nat.le_refl _)) (by omega) (by omega)).mono ?_
  rintro _ w2 ⟨a2, rfl, hn, hr, hb⟩
  have HN2 := hide hn
  have HR2 := hide hr
  have HC2 : Hid (CellsIn w2 w1.heap.size w2.heap.size a2 (blV L)) := clone_cells hr (none_of (HL.out.below HB1.out (Nat.le_refl _)) hn)
  have HB2 := hide hb
  have s2 := hb.size
  clear hn hr hb
  go_wp2_with fail
  refine (F23 aW cW _ _ W _ (HW.out.below (below_trans HB1.out HB2.out) (Nat.le_refl _)) (by omega) (by omega)).mono ?_
  rintro _ w3 ⟨a3, rfl, hn, hr, hb⟩
  have HN3 := hide hn
  have HR3 := hide hr
  have HC3 : Hid (CellsIn w3 w2.heap.size w3.heap.size a3 (wdV W)) := clone_cells hr (none_of (HW.out.below (below_trans HB1.out HB2.out) (Nat.le_refl _)) hn)
  have HB3 := hide hb
  have s3 := hb.size
  clear hn hr hb
  go_wp2_with fail
  refine (F21 aB cB _ _ B _ (HBB.out.below (below_trans (below_trans HB1.out HB2.out) HB3.out) (Nat.le_refl _)) (by omega) (by omega)).mono ?_
  rintro _ w4 ⟨a4, rfl, hn, hr, hb⟩
  have HN4 := hide hn
  have HR4 := hide hr
  have HC4 : Hid (CellsIn w4 w3.heap.size w4.heap.size a4 (strV B)) := clone_cells hr (none_of (HBB.out.below (below_trans (below_trans HB1.out HB2.out) HB3.out) (Nat.le_refl _)) hn)
  have HB4 := hide hb
  have s4 := hb.size
  clear hn hr hb
  go_wp2_with fail
  refine (F21 a1 _ _ _ A _ (HC1.out.below (below_trans (below_trans HB2.out HB3.out) HB4.out) (Nat.le_refl _)) (by omega) (by omega)).mono ?_
  rintro _ w5 ⟨a5, rfl, hn, hr, hb⟩
  have HN5 := hide hn
  have HR5 := hide hr
  have HC5 : Hid (CellsIn w5 w4.heap.size w5.heap.size a5 (strV A)) := clone_cells hr (none_of (HC1.out.below (below_trans (below_trans HB2.out HB3.out) HB4.out) (Nat.le_refl _)) hn)
  have HB5 := hide hb
  have s5 := hb.size
  clear hn hr hb
  go_wp2_with fail
  refine (F22 a2 _ _ _ L _ (HC2.out.below (below_trans (below_trans HB3.out HB4.out) HB5.out) (Nat.le_refl _)) (by omega) (by omega)).mono ?_
  rintro _ w6 ⟨a6, rfl, hn, hr, hb⟩
  have HN6 := hide hn
  have HR6 := hide hr
  have HC6 : Hid (CellsIn w6 w5.heap.size w6.heap.size a6 (blV L)) := clone_cells hr (none_of (HC2.out.below (below_trans (below_trans HB3.out HB4.out) HB5.out) (Nat.le_refl _)) hn)
  have HB6 := hide hb
  have s6 := hb.size
  clear hn hr hb
  go_wp2_with fail
  refine (F23 a3 _ _ _ W _ (HC3.out.below (below_trans (below_trans HB4.out HB5.out) HB6.out) (Nat.le_refl _)) (by omega) (by omega)).mono ?_
  rintro _ w7 ⟨a7, rfl, hn, hr, hb⟩
  have HN7 := hide hn
  have HR7 := hide hr
  have HC7 : Hid (CellsIn w7 w6.heap.size w7.heap.size a7 (wdV W)) := clone_cells hr (none_of (HC3.out.below (below_trans (below_trans HB4.out HB5.out) HB6.out) (Nat.le_refl _)) hn)
  have HB7 := hide hb
  have s7 := hb.size
  clear hn hr hb
  go_wp2_with fail
  refine (F21 a4 _ _ _ B _ (HC4.out.below (below_trans (below_trans HB5.out HB6.out) HB7.out) (Nat.le_refl _)) (by omega) (by omega)).mono ?_
  rintro _ w8 ⟨a8, rfl, hn, hr, hb⟩
  have HN8 := hide hn
  have HR8 := hide hr
  have HC8 : Hid (CellsIn w8 w7.heap.size w8.heap.size a8 (strV B)) := clone_cells hr (none_of (HC4.out.below (below_trans (below_trans HB5.out HB6.out) HB7.out) (Nat.le_refl _)) hn)
  have HB8 := hide hb
  have s8 := hb.size
  clear hn hr hb
  go_wp2_with fail
  refine (F24 a5 a8 _ _ _ _ _ _ A B w8 (HC5.out.below (below_trans (below_trans HB6.out HB7.out) HB8.out) (Nat.le_refl _)) HC8.out (by omega) (by omega) (by omega) (by omega)).mono ?_
  rintro _ w9 ⟨rfl, hb9⟩
  rw [decide_eq_false HNE.out]
  have HB9 := hide hb9
  have s9 := hb9.size
  clear hb9
  have i7 : a7.isNone = false := by rw [isNone_iff HN7.out, isNone_iff HN3.out, hWi]
  go_wp2_with fail
  refine (F25 a5 a8 _ _ _ _ _ _ A B w9 (HC5.out.below (below_trans (below_trans (below_trans HB6.out HB7.out) HB8.out) HB9.out) (Nat.le_refl _)) (HC8.out.below HB9.out (Nat.le_refl _)) (by omega) (by omega) (by omega) (by omega)).mono ?_
  rintro _ w10 ⟨hb10, ⟨_, rfl, hrp⟩ | ⟨hy, _⟩⟩
  case inr => exact absurd HNS.out hy
  have HB10 := hide hb10
  have s10 := hb10.size
  have HRP : Hid (RowV w10 w9.heap.size 3 (inV P)) := by rw [HPD.out]; exact hrp
  have hlp := hrp.lt
  clear hb10 hrp
  have i6k : a6.isNone = false := by rw [isNone_iff HN6.out, isNone_iff HN2.out, hLi]
  have HEVD : Hid (EV = waysOut3 a3 A B W bit) := by
    have i3 : a3.isNone = aW.isNone := isNone_iff HN3.out
    cases e : a3 with
    | none => rw [e, hWi] at i3; cases i3
    | some x => (show EV = Ef.fillW (bitsL B.length bit) (Ef.sub A B 0) W (Ef.sub A B 0).length; rw [← HPD.out, HPL.out]; exact HEV.out)
  go_wp2_with fail
  go_loopw [27] (fun kv wr => ∃ k : Nat, k ≤ B.length ∧ kv = .int .i64 k ∧ RowV wr (w10.heap.size) 4 (part (blV (trues B.length)) (.bool false) B.length (k)) ∧ Below w10.heap.size w10 wr) (fun kv _ => B.length - (intOf kv).toNat)
  case atStart => exact ⟨0, Nat.zero_le _, rfl, by rw [part_zero]; exact RowV.fresh w10 4 _, (Below.refl _ _).alloc (Nat.le_refl _) _⟩
  case round =>
    obtain ⟨k, hk, rfl, hrow, hbel⟩ := hrel
    have HR := hide hrow
    have HBK := hide hbel
    by_cases hlt : k < B.length
    · skip
      have HVL := HVT
      have HVK : Hid ((blV (trues B.length))[k]? = some (.bool true)) := by apply blV_get; simp [trues, hlt]
      have hc := HR.out.cell k _ (part_get _ _ _ _ HVL.out (by omega))
      have hf := HR.out.frozen k
      have HS := hide (part_set (blV (trues B.length)) (.bool false) (.bool true) B.length k HVL.out HVK.out (by omega))
      clear hrow hbel
      go_wp2_with fail
      go_roundw
      case rel =>
        refine ⟨k + 1, by omega, by go_num, ?_, HBK.out.setCell (by show w10.heap.size ≤ w10.heap.size; omega) _⟩
        rw [← HS.out]; exact HR.out.set _ _
      case measure => (simp [intOf]; try omega)
    · obtain rfl : B.length = k := by omega
      obtain ⟨w11, rfl⟩ : ∃ wq : World, wq = wr := ⟨_, rfl⟩
      have hs_w11 := hbel.size
      have hl_w11 := hrow.lt
      clear hrow hbel
      have HR0 : Hid (RowV w11 w10.heap.size 4 (blV (trues B.length))) := by have h := HR.out; rw [part_all _ _ _ _ HVT.out rfl] at h; exact h
      go_wp2_with fail
      go_loopw [28] (fun kv wr => ∃ k : Nat, k ≤ A.length ∧ kv = .int .i64 k ∧ RowV wr w10.heap.size 4 (blV (Ef.fill (trues B.length) P (fun i => L.getD i false) k)) ∧ Below w10.heap.size w10 wr) (fun kv _ => A.length - (intOf kv).toNat)
      case atStart => exact ⟨0, Nat.zero_le _, rfl, HR0.out, HBK.out⟩
      case round =>
        obtain ⟨k, hk, rfl, hrow, hbel⟩ := hrel
        have HR := hide hrow
        have HBK := hide hbel
        by_cases hlt : k < A.length
        · obtain ⟨j, hj⟩ := at_some P k (by rw [HPL.out]; exact hlt)
          have hjB : j < B.length := HLT.out j (List.mem_of_getElem? hj)
          have hjB' : (j : Int) < (B.length : Int) := by omega
          have hcp := (HRP.out.below HBK.out hlp).cell k _ (inV_get P k j hj)
          obtain ⟨old, hold⟩ := at_some (Ef.fill (trues B.length) P (fun i => L.getD i false) k) j (by rw [Ef.fill_len, trues_len]; exact hjB)
          have hc := hrow.cell j _ (blV_get _ _ _ hold)
          have hf := hrow.frozen j
          obtain ⟨lv, hlv⟩ := at_some L k (by rw [HLL.out]; exact hlt)
          obtain ⟨gl, ol, rfl, _, _, hcl⟩ := (HC6.out.below (below_trans (below_trans HB7.out HB8.out) (below_trans HB9.out (below_trans HB10.out HBK.out))) (Nat.le_refl _)) k _ (blV_get L k lv hlv)
          have hkL : (k : Int) < (L.length : Int) := by have := HLL.out; omega
          have HVL : Hid (L.getD k false = lv) := getD_of L k lv false hlv
          clear hlv
          have HS : Hid ((blV (Ef.fill (trues B.length) P (fun i => L.getD i false) k)).set j (.bool lv) = blV (Ef.fill (trues B.length) P (fun i => L.getD i false) (k + 1))) := by
            rw [blV_set]
            show _ = blV ((Ef.fill (trues B.length) P (fun i => L.getD i false) k).set (P.getD k 0) (L.getD k false))
            rw [getD_of P k j 0 hj, HVL.out]
          clear hrow hbel hj hold
          go_wp2_with fail
          go_region
          all_goals
            go_wp2_with fail
            go_roundw
            case rel =>
              refine ⟨k + 1, by omega, by go_num, ?_, ?_⟩
              · rw [← HS.out]
                exact HR.out.set _ _
              · first
                | exact (HBK.out.drew).setCell (by show w10.heap.size ≤ w10.heap.size; omega) _
                | exact (HBK.out.setCell (by show w10.heap.size ≤ w10.heap.size; omega) _).drew
            case measure => (simp [intOf]; try omega)
        · obtain rfl : A.length = k := by omega
          have HRG : Hid (RowV wr w10.heap.size 4 (blV EG)) := by rw [HMO.out]; exact hrow
          obtain ⟨w12, rfl⟩ : ∃ wq : World, wq = wr := ⟨_, rfl⟩
          have hs_w12 := hbel.size
          have hl_w12 := hrow.lt
          clear hrow hbel
          go_wp2_with fail
          go_loopw [29] (fun kv wr => ∃ k : Nat, k ≤ B.length ∧ kv = .int .i64 k ∧ RowV wr (w12.heap.size) 35 (part (wdV (bitsL B.length bit)) (.int .u64 0) B.length (k)) ∧ RowV wr (w10.heap.size) 4 (blV EG) ∧ Below w10.heap.size w10 wr) (fun kv _ => B.length - (intOf kv).toNat)
          case atStart => exact ⟨0, Nat.zero_le _, rfl, by rw [part_zero]; exact RowV.fresh w12 35 _, HRG.out.alloc _, HBK.out.alloc (by omega) _⟩
          case round =>
            obtain ⟨k, hk, rfl, hrow, hst0, hbel⟩ := hrel
            have HR := hide hrow
            have HST0 := hide hst0
            have HBK := hide hbel
            by_cases hlt : k < B.length
            · skip
              have HVL := HVB
              have HVK : Hid ((wdV (bitsL B.length bit))[k]? = some (.int .u64 (bit : Int))) := by apply wdV_get; simp [bitsL, hlt]
              have hc := HR.out.cell k _ (part_get _ _ _ _ HVL.out (by omega))
              have hf := HR.out.frozen k
              have HS := hide (part_set (wdV (bitsL B.length bit)) (.int .u64 0) (.int .u64 (bit : Int)) B.length k HVL.out HVK.out (by omega))
              clear hrow hbel hst0
              go_wp2_with fail
              go_roundw
              case rel =>
                refine ⟨k + 1, by omega, by go_num, ?_, HST0.out.other _ _ (by show w10.heap.size ≠ w12.heap.size; omega), HBK.out.setCell (by show w10.heap.size ≤ w12.heap.size; omega) _⟩
                rw [← HS.out]; exact HR.out.set _ _
              case measure => (simp [intOf]; try omega)
            · obtain rfl : B.length = k := by omega
              obtain ⟨w13, rfl⟩ : ∃ wq : World, wq = wr := ⟨_, rfl⟩
              have hs_w13 := hbel.size
              have hl_w13 := hrow.lt
              have hl0_w13 := hst0.lt
              clear hrow hbel hst0
              have HRB : Hid (RowV w13 w12.heap.size 35 (wdV (bitsL B.length bit))) := by have h := HR.out; rw [part_all _ _ _ _ HVB.out rfl] at h; exact h
              go_wp2_with fail
              go_loopw [30] (fun kv wr => ∃ k : Nat, k ≤ A.length ∧ kv = .int .i64 k ∧ RowV wr w12.heap.size 35 (wdV (Ef.fillW (bitsL B.length bit) P W k)) ∧ RowV wr w10.heap.size 4 (blV EG) ∧ Below w10.heap.size w10 wr) (fun kv _ => A.length - (intOf kv).toNat)
              case atStart => exact ⟨0, Nat.zero_le _, rfl, HRB.out, HST0.out, HBK.out⟩
              case round =>
                obtain ⟨k, hk, rfl, hrow, hst0, hbel⟩ := hrel
                have HR := hide hrow
                have HST0 := hide hst0
                have HBK := hide hbel
                by_cases hlt : k < A.length
                · obtain ⟨j, hj⟩ := at_some P k (by rw [HPL.out]; exact hlt)
                  have hjB : j < B.length := HLT.out j (List.mem_of_getElem? hj)
                  have hjB' : (j : Int) < (B.length : Int) := by omega
                  have hcp := (HRP.out.below HBK.out hlp).cell k _ (inV_get P k j hj)
                  obtain ⟨x, hx⟩ := at_some (Ef.fillW (bitsL B.length bit) P W k) j (by rw [Ef.fillW_len, bitsL_len]; exact hjB)
                  obtain ⟨y, hy⟩ := at_some W k (by rw [HWL.out]; exact hlt)
                  have hkW : (k : Int) < (W.length : Int) := by have := HWL.out; omega
                  have hcx := hrow.cell j _ (wdV_get _ _ _ hx)
                  have hf := hrow.frozen j
                  obtain ⟨gy, oy, rfl, _, _, hcy⟩ := (HC7.out.below (below_trans HB8.out (below_trans HB9.out (below_trans HB10.out HBK.out))) (Nat.le_refl _)) k _ (wdV_get W k y hy)
                  have HOR : Hid (bits .or .u64 (x : Int) (y : Int) = ((x ||| y : Nat) : Int)) := u64_or_nat x y (fillW_lt _ P W (bitsL_lt _ _ hb) HWB.out k x (List.mem_of_getElem? hx)) (HWB.out y (List.mem_of_getElem? hy))
                  have HS : Hid ((wdV (Ef.fillW (bitsL B.length bit) P W k)).set j (.int .u64 ((x ||| y : Nat) : Int)) = wdV (Ef.fillW (bitsL B.length bit) P W (k + 1))) := by
                    rw [wdV_set]
                    show _ = wdV ((Ef.fillW (bitsL B.length bit) P W k).set (P.getD k 0) ((Ef.fillW (bitsL B.length bit) P W k).getD (P.getD k 0) 0 ||| W.getD k 0))
                    rw [getD_of P k j 0 hj, getD_of _ j x 0 hx, getD_of W k y 0 hy]
                  clear hrow hst0 hbel hj hx hy
                  go_wp2_with fail
                  go_region
                  all_goals
                    go_wp2_with fail
                    go_roundw
                    case rel =>
                      refine ⟨k + 1, by omega, by go_num, ?_, ?_, ?_⟩
                      · rw [← HS.out, HOR.out]
                        exact HR.out.set _ _
                      · exact HST0.out.other _ _ (by show w10.heap.size ≠ w12.heap.size; omega)
                      · first
                        | exact (HBK.out.drew).setCell (by show w10.heap.size ≤ w12.heap.size; omega) _
                        | exact (HBK.out.setCell (by show w10.heap.size ≤ w12.heap.size; omega) _).drew
                    case measure => (simp [intOf]; try omega)
                · obtain rfl : A.length = k := by omega
                  have HRV : Hid (RowV wr w12.heap.size 35 (wdV EV)) := by rw [HEV.out]; exact hrow
                  have HRG := HST0
                  obtain ⟨w14, rfl⟩ : ∃ wq : World, wq = wr := ⟨_, rfl⟩
                  have hs_w14 := hbel.size
                  have hl_w14 := hrow.lt
                  clear hrow hst0 hbel
                  go_wp2_with fail
                  have HX := hide (below_trans HB9.out (below_trans HB10.out HBK.out))
                  have sx := HX.out.size
                  have H1 : Hid (CellsIn w14 (0) (w2.heap.size) a1 (strV A)) := (HC1.out.below (below_trans (below_trans (below_trans (below_trans (below_trans (below_trans (below_trans HB2.out HB3.out) HB4.out) HB5.out) HB6.out) HB7.out) HB8.out) HX.out) (Nat.le_refl _)).wide (by omega) (by omega)
                  have H2 : Hid (CellsIn w14 (0) (w2.heap.size) a2 (blV L)) := (HC2.out.below (below_trans (below_trans (below_trans (below_trans (below_trans (below_trans HB3.out HB4.out) HB5.out) HB6.out) HB7.out) HB8.out) HX.out) (Nat.le_refl _)).wide (by omega) (by omega)
                  have H4 : Hid (CellsIn w14 (w3.heap.size) (w14.heap.size) a4 (strV B)) := (HC4.out.below (below_trans (below_trans (below_trans (below_trans HB5.out HB6.out) HB7.out) HB8.out) HX.out) (Nat.le_refl _)).wide (by omega) (by omega)
                  have H5 : Hid (CellsIn w14 (w3.heap.size) (w14.heap.size) a5 (strV A)) := (HC5.out.below (below_trans (below_trans (below_trans HB6.out HB7.out) HB8.out) HX.out) (Nat.le_refl _)).wide (by omega) (by omega)
                  have H6 : Hid (CellsIn w14 (w3.heap.size) (w14.heap.size) a6 (blV L)) := (HC6.out.below (below_trans (below_trans HB7.out HB8.out) HX.out) (Nat.le_refl _)).wide (by omega) (by omega)
                  have H7 : Hid (CellsIn w14 (w3.heap.size) (w14.heap.size) a7 (wdV W)) := (HC7.out.below (below_trans HB8.out HX.out) (Nat.le_refl _)).wide (by omega) (by omega)
                  have H8 : Hid (CellsIn w14 (w3.heap.size) (w14.heap.size) a8 (strV B)) := (HC8.out.below HX.out (Nat.le_refl _)).wide (by omega) (by omega)
                  have HLc2 : Hid ((a2 = none ∧ L = []) ∨ (∃ ad, a2 = some ad) ∧ L.length = A.length) := by
                    rcases HLcase.out with ⟨h, h'⟩ | ⟨⟨ad, h⟩, h'⟩
                    · exact Or.inl ⟨HN2.out.2 h, h'⟩
                    · refine Or.inr ⟨?_, h'⟩
                      cases e : a2 with
                      | none => have := HN2.out.1 e; rw [this] at h; cases h
                      | some x => exact ⟨x, rfl⟩
                  obtain ⟨gW, HGW⟩ : ∃ gW, Hid (w2.heap.size ≤ gW ∧ (gW < w3.heap.size ∨ w14.heap.size ≤ gW) ∧ ((a3 = none ∧ W = []) ∨ (a3 = some ⟨gW, 0, none⟩ ∧ RowV w14 gW 35 (wdV W) ∧ W.length = A.length))) := by
                    rcases HWcase.out with ⟨h, h'⟩ | ⟨⟨ad, h⟩, h'⟩
                    · exact ⟨w14.heap.size, by omega, Or.inr (Nat.le_refl _), Or.inl ⟨HN3.out.2 h, h'⟩⟩
                    · cases e : a3 with
                      | none => have := HN3.out.1 e; rw [this] at h; cases h
                      | some x =>
                        obtain ⟨rfl, hrow⟩ := HR3.out x e
                        have hl := hrow.lt
                        exact ⟨w2.heap.size, Nat.le_refl _, Or.inl (by omega), Or.inr ⟨rfl, hrow.below (below_trans (below_trans (below_trans (below_trans (below_trans HB4.out HB5.out) HB6.out) HB7.out) HB8.out) HX.out) hl, h'⟩⟩
                  have g1 := HGW.out.1
                  have g2 := HGW.out.2.1
                  have HGW0 : Hid ((a3 = none ∧ W = []) ∨ (a3 = some ⟨gW, 0, none⟩ ∧ RowV w14 gW 35 (wdV W))) := by
                    rcases HGW.out.2.2 with h | ⟨h, h', _⟩
                    · exact Or.inl h
                    · exact Or.inr ⟨h, h'⟩
                  have i2 : Hid (a2.isNone = aL.isNone) := isNone_iff HN2.out
                  have i3 : Hid (a3.isNone = aW.isNone) := isNone_iff HN3.out
                  have i6 : Hid (a6.isNone = a2.isNone) := isNone_iff HN6.out
                  have i5 : Hid (a5.isNone = a1.isNone) := isNone_iff HN5.out
                  have i8 : Hid (a8.isNone = a4.isNone) := isNone_iff HN8.out
                  have HB0X := hide (below_trans (below_trans (below_trans (below_trans (below_trans (below_trans (below_trans (below_trans HB1.out HB2.out) HB3.out) HB4.out) HB5.out) HB6.out) HB7.out) HB8.out) HX.out)
                  have HEF := H8
                  have HEL : Hid (CellsIn w14 w3.heap.size w14.heap.size (some ⟨w10.heap.size, 0, none⟩) (blV EG)) := HRG.out.cellsAll.wide (by omega) HRG.out.lt
                  have HEW : Hid (CellsIn w14 w3.heap.size w14.heap.size (some ⟨w12.heap.size, 0, none⟩) (wdV EV)) := HRV.out.cellsAll.wide (by omega) HRV.out.lt
                  clear HRV
                  clear HRG HR HBK
                  go_wp2_with (first | (go_at_call 26; go_in) | fail)
                  refine (ex3 a1 a2 a3 a4 gW _ _ _ _ _ _ bit _ A B L W w14 H1.out H4.out H2.out (by omega) (by omega) (by omega) (by omega) (by omega) (by omega) hb HWB.out HLc2.out HGW.out.2.2 HNE.out HNS.out EG EV HEGD.out HEVD.out HEVL.out).mono ?_
                  rintro _ wy ⟨aF, cF, aG, cG, aV, cV, rfl, hcF, hcG, hcV, hnF, hnG, hnV, hgr, hcW⟩
                  have HF := hide hcF
                  have HG := hide hcG
                  have HV := hide hcV
                  have HWA := hide hcW
                  have sy := hgr.size
                  have H1y := hide ((grown_keep H1.out hgr (by omega) (by omega)).wide (Nat.zero_le _) (show _ ≤ wy.heap.size by omega))
                  have H2y := hide ((grown_keep H2.out hgr (by omega) (by omega)).wide (Nat.zero_le _) (show _ ≤ wy.heap.size by omega))
                  have H4y := hide ((grown_keep H4.out hgr (by omega) (by omega)).wide (Nat.zero_le _) (show _ ≤ wy.heap.size by omega))
                  have H5y := hide ((grown_keep H5.out hgr (by omega) (by omega)).wide (Nat.zero_le _) (show _ ≤ wy.heap.size by omega))
                  have H6y := hide ((grown_keep H6.out hgr (by omega) (by omega)).wide (Nat.zero_le _) (show _ ≤ wy.heap.size by omega))
                  have H7y := hide ((grown_keep H7.out hgr (by omega) (by omega)).wide (Nat.zero_le _) (show _ ≤ wy.heap.size by omega))
                  have H8y := hide ((grown_keep H8.out hgr (by omega) (by omega)).wide (Nat.zero_le _) (show _ ≤ wy.heap.size by omega))
                  have HEFy := hide ((grown_keep HEF.out hgr (by omega) (by omega)).wide (Nat.zero_le _) (show _ ≤ wy.heap.size by omega))
                  have HELy := hide ((grown_keep HEL.out hgr (by omega) (by omega)).wide (Nat.zero_le _) (show _ ≤ wy.heap.size by omega))
                  have HEWy := hide ((grown_keep HEW.out hgr (by omega) (by omega)).wide (Nat.zero_le _) (show _ ≤ wy.heap.size by omega))
                  have HBY := hide (HB0X.out.grown hgr (by omega) (fun k hk => by cases hk; omega))
                  have qF : aF.isNone = a8.isNone := by rw [hnF, i8.out]
                  have qG : aG.isNone = false := hnG
                  have qV : aV.isNone = false := by rw [hnV, i3.out, hWi]
                  clear hcF hcG hcV hcW hnF hnG hnV hgr HGW HGW0 g1 g2 HLc2 HC1 HC2 HC3 HC4 HC5 HC6 HC7 HC8 HR1 HR2 HR3 HR4 HR5 HR6 HR7 HR8 HB1 HB2 HB3 HB4 HB5 HB6 HB7 HB8 HN1 HN2 HN3 HN4 HN5 HN6 HN7 HN8 HA HL HW HBB H1 H2 H4 H5 H6 H7 H8 HEF HEL HEW HX HB0X
                  cases hq : a8.isNone
                  all_goals
                    rw [hq] at qF
                    go_wp2_with fail
                    refine (S24 aF a8 _ _ _ _ _ _ _ _ B wy HF.out HEFy.out (by omega) (by omega) (by omega) rfl rfl).mono ?_
                    rintro _ u1 ⟨rfl, hb1⟩
                    have HU1 := hide (hb1)
                    have su1 := hb1.size
                    clear hb1
                    go_wp2_with fail
                    refine (S27 aG (some ⟨w10.heap.size, 0, none⟩) _ _ _ _ _ _ _ _ EG u1 (HG.out.below HU1.out (Nat.le_refl _)) (HELy.out.below HU1.out (Nat.le_refl _)) (by omega) (by omega) (by omega) HEGL.out HEGL.out).mono ?_
                    rintro _ u2 ⟨rfl, hb2⟩
                    have HU2 := hide (below_trans HU1.out hb2)
                    have su2 := hb2.size
                    clear hb2
                    go_wp2_with fail
                    refine (S28 aV (some ⟨w12.heap.size, 0, none⟩) _ _ _ _ _ _ _ _ EV u2 (HV.out.below HU2.out (Nat.le_refl _)) (HEWy.out.below HU2.out (Nat.le_refl _)) (by omega) (by omega) (by omega) HEVL.out HEVL.out).mono ?_
                    rintro _ u3 ⟨rfl, hb3⟩
                    have HU3 := hide (below_trans HU2.out hb3)
                    have su3 := hb3.size
                    clear hb3
                    go_wp2_with fail
                    refine (S24 a1 a5 _ _ _ _ _ _ _ _ A u3 (H1y.out.below HU3.out (Nat.le_refl _)) (H5y.out.below HU3.out (Nat.le_refl _)) (by omega) (by omega) (by omega) rfl rfl).mono ?_
                    rintro _ u4 ⟨rfl, hb4⟩
                    have HU4 := hide (below_trans HU3.out hb4)
                    have su4 := hb4.size
                    clear hb4
                    go_wp2_with fail
                    refine (S27 a2 a6 _ _ _ _ _ _ _ _ L u4 (H2y.out.below HU4.out (Nat.le_refl _)) (H6y.out.below HU4.out (Nat.le_refl _)) (by omega) (by omega) (by omega) rfl rfl).mono ?_
                    rintro _ u5 ⟨rfl, hb5⟩
                    have HU5 := hide (below_trans HU4.out hb5)
                    have su5 := hb5.size
                    clear hb5
                    go_wp2_with fail
                    refine (S24 a4 a8 _ _ _ _ _ _ _ _ B u5 (H4y.out.below HU5.out (Nat.le_refl _)) (H8y.out.below HU5.out (Nat.le_refl _)) (by omega) (by omega) (by omega) rfl rfl).mono ?_
                    rintro _ u6 ⟨rfl, hb6⟩
                    have HU6 := hide (below_trans HU5.out hb6)
                    have su6 := hb6.size
                    clear hb6
                    go_wp2_with fail
                    refine (S28 a3 a7 _ _ _ _ _ _ _ _ W u6 (HWA.out.below HU6.out (Nat.le_refl _)) (H7y.out.below HU6.out (Nat.le_refl _)) (by omega) (by omega) (by omega) rfl rfl).mono ?_
                    rintro _ u7 ⟨rfl, hb7⟩
                    have HU7 := hide (below_trans HU6.out hb7)
                    have su7 := hb7.size
                    clear hb7
                    go_wp2_with fail
                    go_ret
                    exact ⟨rfl, HBY.out.trans (HU7.out.mono (by omega))⟩
end Go.Proofs.Qxb6601135a
