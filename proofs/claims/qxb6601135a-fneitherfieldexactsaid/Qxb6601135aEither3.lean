/-
  eitherField where the first list is found in the second: the second list; the marks and the ways of the matched places.
-/
import Derived.Test.Qxb6601135aEither2
import Derived.RegionTactic
namespace Go.Proofs.Qxb6601135a
open Go.ChangeShapes Go.WideShapes Go.ChangeAt Go.RowKit
set_option linter.unusedVariables false

theorem getD_of {α : Type} (l : List α) (k : Nat) (x d : α) (h : l[k]? = some x) : l.getD k d = x := by rw [List.getD_eq_getElem?_getD, h]; rfl
theorem blV_set (l : List Bool) (j : Nat) (v : Bool) : (blV l).set j (.bool v) = blV (l.set j v) := by simp [blV, List.map_set]
theorem wdV_set (l : List Nat) (j v : Nat) : (wdV l).set j (.int .u64 (v : Int)) = wdV (l.set j v) := by simp [wdV, List.map_set]
def marksOut (A B : List ByteArray) (L : List Bool) : List Bool := Ef.fill (trues B.length) (Ef.sub A B 0) (fun i => L.getD i false) (Ef.sub A B 0).length
def waysOut3 (aW : Option Addr) (A B : List ByteArray) (W : List Nat) (bit : Nat) : List Nat := match aW with | none => [] | some _ => Ef.fillW (bitsL B.length bit) (Ef.sub A B 0) W (Ef.sub A B 0).length
theorem marksOut_len (A B : List ByteArray) (L : List Bool) : (marksOut A B L).length = B.length := by unfold marksOut; rw [Ef.fill_len, trues_len]
theorem fillW_lt (l ps ws : List Nat) (hl : ∀ x ∈ l, x < 18446744073709551616) (hw : ∀ x ∈ ws, x < 18446744073709551616) : ∀ k, ∀ x ∈ Ef.fillW l ps ws k, x < 18446744073709551616
  | 0 => hl
  | k + 1 => by
    intro x hx
    simp only [Ef.fillW] at hx
    rcases List.mem_or_eq_of_mem_set hx with h | h
    · exact fillW_lt l ps ws hl hw k x h
    · have h1 : (Ef.fillW l ps ws k).getD (ps.getD k 0) 0 < 2 ^ 64 := by
        rw [List.getD_eq_getElem?_getD]
        cases e : (Ef.fillW l ps ws k)[ps.getD k 0]? with
        | none => decide
        | some y => exact fillW_lt l ps ws hl hw k y (List.mem_of_getElem? e)
      have h2 : ws.getD k 0 < 2 ^ 64 := by
        rw [List.getD_eq_getElem?_getD]
        cases e : ws[k]? with
        | none => decide
        | some y => exact hw y (List.mem_of_getElem? e)
      rw [h]
      exact Nat.or_lt_two_pow h1 h2
theorem bitsL_lt (n bit : Nat) (h : bit < 18446744073709551616) : ∀ x ∈ bitsL n bit, x < 18446744073709551616 := by
  intro x hx; unfold bitsL at hx; rw [List.mem_replicate] at hx; rw [hx.2]; exact h

def E3P (aW aB : Option Addr) (A B : List ByteArray) (L : List Bool) (W : List Nat) (bit : Nat) (w : World) (e : Ending) (w' : World) : Prop :=
  ∃ adL aW' cW', e = .returned (.tuple #[.slice aB B.length B.length, .slice (some adL) B.length B.length, .slice aW' (waysOut3 aW A B W bit).length cW']) ∧
    CellsIn w' w.heap.size w'.heap.size (some adL) (blV (marksOut A B L)) ∧
    (aW' = none ↔ aW = none) ∧ CellsIn w' w.heap.size w'.heap.size aW' (wdV (waysOut3 aW A B W bit)) ∧ Below w.heap.size w w'

set_option maxHeartbeats 4000000 in
set_option maxRecDepth 100000 in
theorem E3 (aA aL aW aB : Option Addr) (gW l1 h1 l2 h2 l3 h3 bit : Nat) (A B : List ByteArray) (L : List Bool) (W : List Nat) (w : World) (hA : CellsIn w l1 h1 aA (strV A)) (hB : CellsIn w l2 h2 aB (strV B)) (hL : CellsIn w l3 h3 aL (blV L)) (b1 : h1 ≤ w.heap.size) (b2 : h2 ≤ w.heap.size) (b3 : h3 ≤ w.heap.size)
    (n1 : A.length ≤ 70000) (n3 : B.length ≤ 70000) (n2 : W.length ≤ 70000) (hb : bit < 18446744073709551616) (hwb : ∀ x ∈ W, x < 18446744073709551616)
    (hLl : (aL = none ∧ L = []) ∨ (∃ ad, aL = some ad) ∧ L.length = A.length)
    (hW : (aW = none ∧ W = []) ∨ (aW = some ⟨gW, 0, none⟩ ∧ RowV w gW 35 (wdV W) ∧ W.length = A.length))
    (hne : A ≠ B) (hns : (Ef.sub A B 0).length = A.length) :
    Calls Try.prog 34 #[.slice aA A.length A.length, .slice aL L.length L.length, .slice aW W.length W.length, .slice aB B.length B.length, .int .u64 (bit : Int)] w (E3P aW aB A B L W bit w) := by
  have HA := hide hA
  have HB := hide hB
  have HL := hide hL
  have HWB := hide hwb
  clear hA hB hL hwb
  have hnl := fun (wx : World) (a : Option Addr) (n c : Nat) => run_neq_slice_nil_any (P := Try.prog) wx 34 35 a n c 0 0 Try.underlying34
  have hnb := fun (wx : World) (a : Option Addr) (n c : Nat) => run_neq_slice_nil_any (P := Try.prog) wx 33 4 a n c 0 0 Try.underlying33
  have HNE := hide hne
  have HNS := hide hns
  have HLT : Hid (∀ p ∈ Ef.sub A B 0, p < B.length) := fun p hp => by have := Ef.sub_lt B A 0 p hp; omega
  have HMO : Hid (marksOut A B L = Ef.fill (trues B.length) (Ef.sub A B 0) (fun i => L.getD i false) (Ef.sub A B 0).length) := rfl
  obtain ⟨WO, hWO⟩ : ∃ WO, WO = waysOut3 aW A B W bit := ⟨_, rfl⟩
  have HWO := hide hWO
  obtain ⟨P, hP⟩ : ∃ P, P = Ef.sub A B 0 := ⟨_, rfl⟩
  have hPl : P.length = A.length := by rw [hP]; exact hns
  have hPn : P.length ≤ 70000 := by omega
  have HPL := hide hPl
  have HP := hide hP
  rw [← hP] at HLT HMO
  clear hne hns hP hPl hWO
  go_enter Try.func34, Try.ntmps34
  go_wp2_with fail
  refine (F38 _ aB _ _ l1 h1 l2 h2 A B _ HA.out HB.out b1 b2 (by omega) (by omega)).mono ?_
  rintro _ w1 ⟨rfl, hbel1⟩
  rw [decide_eq_false HNE.out]
  have HB1 := hide hbel1
  have hs1 := hbel1.size
  clear hbel1
  go_wp2_with fail
  refine (F39 _ aB _ _ l1 h1 l2 h2 A B _ (HA.out.below HB1.out b1) (HB.out.below HB1.out b2) (by omega) (by omega) (by omega) (by omega)).mono ?_
  rintro _ w2 ⟨aP, cP, rfl, hcP, hbel2⟩
  rw [decide_eq_true HNS.out, ← HP.out]
  rw [← HP.out] at hcP
  have HCP := hide hcP
  have HB2 := hide (below_trans HB1.out hbel2)
  have hs2 := HB2.out.size
  clear hbel2 hcP
  go_wp2_with fail
  obtain ⟨wa, hE, hsa, hba, hca⟩ := one_new w2 #[.bool true] 4
  rw [← hE]
  clear hE
  refine (F42 w2.heap.size 1 true B.length wa (hca 0 _ rfl) (by omega) (by omega)).mono ?_
  rintro _ w3 ⟨rfl, hrow3, hbel3⟩
  have HR3 : Hid (RowV w3 wa.heap.size 4 (blV (trues B.length))) := by rw [← reps_trues]; exact hrow3
  have HB3 := hide (below_trans hba hbel3)
  have hs3 := HB3.out.size
  have hl3 := hrow3.lt
  clear hrow3 hbel3 hba hca
  rcases hLl with ⟨rfl, hL0⟩ | ⟨⟨adL0, rfl⟩, hLL⟩
  · have HL0 := hide hL0
    clear hL0
    rcases hW with ⟨rfl, rfl⟩ | ⟨rfl, hrow0, hWl⟩
    · have HW0 : Hid (WO = []) := HWO.out
      go_wp2_with fail
      go_loopw [76] (fun kv wr => ∃ k : Nat, k ≤ P.length ∧ kv = .int .i64 k ∧ RowV wr wa.heap.size 4 (blV (Ef.fill (trues B.length) P (fun i => L.getD i false) k)) ∧ Below w2.heap.size w2 wr) (fun kv _ => P.length - (intOf kv).toNat)
      case atStart => exact ⟨0, Nat.zero_le _, rfl, HR3.out, HB3.out⟩
      case round =>
        obtain ⟨k, hk, rfl, hrow, hbel⟩ := hrel
        have HR := hide hrow
        have HBK := hide hbel
        by_cases hlt : k < P.length
        · obtain ⟨j, hj⟩ := at_some P k hlt
          have hjB : j < B.length := HLT.out j (List.mem_of_getElem? hj)
          obtain ⟨gp, op, rfl, _, _, hcp⟩ := (HCP.out.below HBK.out (Nat.le_refl _)) k _ (inV_get P k j hj)
          obtain ⟨old, hold⟩ := at_some (Ef.fill (trues B.length) P (fun i => L.getD i false) k) j (by rw [Ef.fill_len, trues_len]; exact hjB)
          have hc := hrow.cell j _ (blV_get _ _ _ hold)
          have hf := hrow.frozen j
          have HVL : Hid (L.getD k false = false) := by rw [HL0.out]; rfl
          have HS : Hid ((blV (Ef.fill (trues B.length) P (fun i => L.getD i false) k)).set j (.bool false) = blV (Ef.fill (trues B.length) P (fun i => L.getD i false) (k + 1))) := by
            rw [blV_set]
            show _ = blV ((Ef.fill (trues B.length) P (fun i => L.getD i false) k).set (P.getD k 0) (L.getD k false))
            rw [getD_of P k j 0 hj, HVL.out]
          clear hrow hbel hj hold
          go_wp2_with fail
          go_roundw
          case rel => exact ⟨k + 1, by omega, by go_num, by rw [← HS.out]; exact HR.out.set _ _, HBK.out.setCell (by show w2.heap.size ≤ wa.heap.size; omega) _⟩
          case measure => (simp [intOf]; try omega)
        · obtain rfl : k = P.length := by omega
          have HRM : Hid (RowV wr wa.heap.size 4 (blV (marksOut A B L))) := by rw [HMO.out]; exact hrow
          have hlm := HRM.out.lt
          have hswr := hbel.size
          obtain ⟨w4, rfl⟩ : ∃ w4 : World, w4 = wr := ⟨_, rfl⟩
          clear hrow hbel HR
          go_wp2_with fail
          go_ret3
          refine ⟨⟨wa.heap.size, 0, none⟩, none, 0, by rw [← HWO.out, HW0.out]; rfl, (HRM.out.cellsAll).wide (by omega) (by omega), by simp, ?_, below_trans HB2.out HBK.out⟩
          rw [← HWO.out, HW0.out]; exact CellsIn.nil _ _ _ _
    · have HROW := hide hrow0
      have hgw := hrow0.lt
      have HWL := hide hWl
      have HWS : Hid (waysOut3 (some ⟨gW, 0, none⟩) A B W bit = Ef.fillW (bitsL B.length bit) (Ef.sub A B 0) W (Ef.sub A B 0).length) := rfl
      clear hrow0 hWl
      go_wp2_with fail
      go_loopw [76] (fun kv wr => ∃ k : Nat, k ≤ P.length ∧ kv = .int .i64 k ∧ RowV wr wa.heap.size 4 (blV (Ef.fill (trues B.length) P (fun i => L.getD i false) k)) ∧ Below w2.heap.size w2 wr) (fun kv _ => P.length - (intOf kv).toNat)
      case atStart => exact ⟨0, Nat.zero_le _, rfl, HR3.out, HB3.out⟩
      case round =>
        obtain ⟨k, hk, rfl, hrow, hbel⟩ := hrel
        have HR := hide hrow
        have HBK := hide hbel
        by_cases hlt : k < P.length
        · obtain ⟨j, hj⟩ := at_some P k hlt
          have hjB : j < B.length := HLT.out j (List.mem_of_getElem? hj)
          obtain ⟨gp, op, rfl, _, _, hcp⟩ := (HCP.out.below HBK.out (Nat.le_refl _)) k _ (inV_get P k j hj)
          obtain ⟨old, hold⟩ := at_some (Ef.fill (trues B.length) P (fun i => L.getD i false) k) j (by rw [Ef.fill_len, trues_len]; exact hjB)
          have hc := hrow.cell j _ (blV_get _ _ _ hold)
          have hf := hrow.frozen j
          have HVL : Hid (L.getD k false = false) := by rw [HL0.out]; rfl
          have HS : Hid ((blV (Ef.fill (trues B.length) P (fun i => L.getD i false) k)).set j (.bool false) = blV (Ef.fill (trues B.length) P (fun i => L.getD i false) (k + 1))) := by
            rw [blV_set]
            show _ = blV ((Ef.fill (trues B.length) P (fun i => L.getD i false) k).set (P.getD k 0) (L.getD k false))
            rw [getD_of P k j 0 hj, HVL.out]
          clear hrow hbel hj hold
          go_wp2_with fail
          go_roundw
          case rel => exact ⟨k + 1, by omega, by go_num, by rw [← HS.out]; exact HR.out.set _ _, HBK.out.setCell (by show w2.heap.size ≤ wa.heap.size; omega) _⟩
          case measure => (simp [intOf]; try omega)
        · obtain rfl : k = P.length := by omega
          have HRM : Hid (RowV wr wa.heap.size 4 (blV (marksOut A B L))) := by rw [HMO.out]; exact hrow
          have hlm := HRM.out.lt
          have hswr := hbel.size
          obtain ⟨w4, rfl⟩ : ∃ w4 : World, w4 = wr := ⟨_, rfl⟩
          clear hrow hbel HR
          go_wp2_with fail
          obtain ⟨wb, hE2, hsb, hbb, hcb⟩ := one_new w4 #[.int .u64 (bit : Int)] 35
          rw [← hE2]
          clear hE2
          refine (F40 w4.heap.size 1 bit B.length wb (hcb 0 _ rfl) (by omega) (by omega)).mono ?_
          rintro _ w5 ⟨rfl, hrow5, hbel5⟩
          have HR5 : Hid (RowV w5 wb.heap.size 35 (wdV (bitsL B.length bit))) := by rw [← reps_bits]; exact hrow5
          have HB5 := hide (below_trans hbb hbel5)
          have hs5 := HB5.out.size
          have hl5 := hrow5.lt
          clear hrow5 hbel5 hbb hcb
          go_wp2_with fail
          go_loopw [102] (fun kv wr => ∃ k : Nat, k ≤ P.length ∧ kv = .int .i64 k ∧ RowV wr wb.heap.size 35 (wdV (Ef.fillW (bitsL B.length bit) P W k)) ∧ Below w4.heap.size w4 wr) (fun kv _ => P.length - (intOf kv).toNat)
          case atStart => exact ⟨0, Nat.zero_le _, rfl, HR5.out, HB5.out⟩
          case round =>
            obtain ⟨k, hk, rfl, hrow, hbel⟩ := hrel
            have HR := hide hrow
            have HBJ := hide hbel
            by_cases hlt : k < P.length
            · obtain ⟨j, hj⟩ := at_some P k hlt
              have hjB : j < B.length := HLT.out j (List.mem_of_getElem? hj)
              obtain ⟨gp, op, rfl, _, hgp, hcp⟩ := (HCP.out.below (below_trans HBK.out HBJ.out) (Nat.le_refl _)) k _ (inV_get P k j hj)
              obtain ⟨x, hx⟩ := at_some (Ef.fillW (bitsL B.length bit) P W k) j (by rw [Ef.fillW_len, bitsL_len]; exact hjB)
              obtain ⟨y, hy⟩ := at_some W k (by rw [HWL.out, ← HPL.out]; exact hlt)
              have hkW : (k : Int) < (W.length : Int) := by have := HWL.out; have := HPL.out; omega
              have hcx := hrow.cell j _ (wdV_get _ _ _ hx)
              have hf := hrow.frozen j
              have hcy := (HROW.out.below (below_trans HB2.out (below_trans HBK.out HBJ.out)) hgw).cell k _ (wdV_get W k y hy)
              have HOR : Hid (bits .or .u64 (x : Int) (y : Int) = ((x ||| y : Nat) : Int)) := u64_or_nat x y (fillW_lt _ P W (bitsL_lt _ _ hb) HWB.out k x (List.mem_of_getElem? hx)) (HWB.out y (List.mem_of_getElem? hy))
              have HS : Hid ((wdV (Ef.fillW (bitsL B.length bit) P W k)).set j (.int .u64 ((x ||| y : Nat) : Int)) = wdV (Ef.fillW (bitsL B.length bit) P W (k + 1))) := by
                rw [wdV_set]
                show _ = wdV ((Ef.fillW (bitsL B.length bit) P W k).set (P.getD k 0) ((Ef.fillW (bitsL B.length bit) P W k).getD (P.getD k 0) 0 ||| W.getD k 0))
                rw [getD_of P k j 0 hj, getD_of _ j x 0 hx, getD_of W k y 0 hy]
              have hjB' : (j : Int) < (B.length : Int) := by omega
              clear hrow hbel hj hx hy
              go_wp2_with fail
              go_region
              all_goals
                go_wp2_with fail
                go_roundw
                case rel =>
                  refine ⟨k + 1, by omega, by go_num, ?_, ?_⟩
                  · rw [← HS.out, HOR.out]
                    exact HR.out.set _ _
                  · first
                    | exact (HBJ.out.drew).setCell (by show w4.heap.size ≤ wb.heap.size; omega) _
                    | exact (HBJ.out.setCell (by show w4.heap.size ≤ wb.heap.size; omega) _).drew
                case measure => (simp [intOf]; try omega)
            · obtain rfl : k = P.length := by omega
              have HRW : Hid (RowV wr wb.heap.size 35 (wdV WO)) := by rw [HWO.out, HWS.out, ← HP.out]; exact hrow
              have HWOL : Hid (B.length = (waysOut3 (some ⟨gW, 0, none⟩) A B W bit).length) := by
                show _ = (Ef.fillW (bitsL B.length bit) (Ef.sub A B 0) W (Ef.sub A B 0).length).length
                rw [Ef.fillW_len, bitsL_len]
              have HRM2 := hide (HRM.out.below HBJ.out (by omega))
              have hswr2 := hbel.size
              clear hrow hbel HR
              go_wp2_with fail
              go_ret3
              refine ⟨⟨wa.heap.size, 0, none⟩, some ⟨wb.heap.size, 0, none⟩, B.length, tup3 HWOL.out, (HRM2.out.cellsAll).wide (by omega) (by omega), by simp, ?_, below_trans HB2.out (below_trans HBK.out HBJ.out)⟩
              have h := HRW.out
              rw [HWO.out] at h
              exact h.cellsAll.wide (by omega) (by have := HRW.out.lt; omega)
  · have HLL := hide hLL
    clear hLL
    rcases hW with ⟨rfl, rfl⟩ | ⟨rfl, hrow0, hWl⟩
    · have HW0 : Hid (WO = []) := HWO.out
      go_wp2_with fail
      go_loopw [76] (fun kv wr => ∃ k : Nat, k ≤ P.length ∧ kv = .int .i64 k ∧ RowV wr wa.heap.size 4 (blV (Ef.fill (trues B.length) P (fun i => L.getD i false) k)) ∧ Below w2.heap.size w2 wr) (fun kv _ => P.length - (intOf kv).toNat)
      case atStart => exact ⟨0, Nat.zero_le _, rfl, HR3.out, HB3.out⟩
      case round =>
        obtain ⟨k, hk, rfl, hrow, hbel⟩ := hrel
        have HR := hide hrow
        have HBK := hide hbel
        by_cases hlt : k < P.length
        · obtain ⟨j, hj⟩ := at_some P k hlt
          have hjB : j < B.length := HLT.out j (List.mem_of_getElem? hj)
          obtain ⟨gp, op, rfl, _, _, hcp⟩ := (HCP.out.below HBK.out (Nat.le_refl _)) k _ (inV_get P k j hj)
          obtain ⟨old, hold⟩ := at_some (Ef.fill (trues B.length) P (fun i => L.getD i false) k) j (by rw [Ef.fill_len, trues_len]; exact hjB)
          have hc := hrow.cell j _ (blV_get _ _ _ hold)
          have hf := hrow.frozen j
          obtain ⟨lv, hlv⟩ := at_some L k (by rw [HLL.out, ← HPL.out]; exact hlt)
          obtain ⟨gl, ol, hal, _, _, hcl⟩ := (HL.out.below (below_trans HB2.out HBK.out) b3) k _ (blV_get L k lv hlv)
          cases hal
          have hkL : (k : Int) < (L.length : Int) := by have := HLL.out; have := HPL.out; omega
          have HVL : Hid (L.getD k false = lv) := getD_of L k lv false hlv
          clear hlv
          have HS : Hid ((blV (Ef.fill (trues B.length) P (fun i => L.getD i false) k)).set j (.bool lv) = blV (Ef.fill (trues B.length) P (fun i => L.getD i false) (k + 1))) := by
            rw [blV_set]
            show _ = blV ((Ef.fill (trues B.length) P (fun i => L.getD i false) k).set (P.getD k 0) (L.getD k false))
            rw [getD_of P k j 0 hj, HVL.out]
          clear hrow hbel hj hold
          go_wp2_with fail
          go_roundw
          case rel => exact ⟨k + 1, by omega, by go_num, by rw [← HS.out]; exact HR.out.set _ _, HBK.out.setCell (by show w2.heap.size ≤ wa.heap.size; omega) _⟩
          case measure => (simp [intOf]; try omega)
        · obtain rfl : k = P.length := by omega
          have HRM : Hid (RowV wr wa.heap.size 4 (blV (marksOut A B L))) := by rw [HMO.out]; exact hrow
          have hlm := HRM.out.lt
          have hswr := hbel.size
          obtain ⟨w4, rfl⟩ : ∃ w4 : World, w4 = wr := ⟨_, rfl⟩
          clear hrow hbel HR
          go_wp2_with fail
          go_ret3
          refine ⟨⟨wa.heap.size, 0, none⟩, none, 0, by rw [← HWO.out, HW0.out]; rfl, (HRM.out.cellsAll).wide (by omega) (by omega), by simp, ?_, below_trans HB2.out HBK.out⟩
          rw [← HWO.out, HW0.out]; exact CellsIn.nil _ _ _ _
    · have HROW := hide hrow0
      have hgw := hrow0.lt
      have HWL := hide hWl
      have HWS : Hid (waysOut3 (some ⟨gW, 0, none⟩) A B W bit = Ef.fillW (bitsL B.length bit) (Ef.sub A B 0) W (Ef.sub A B 0).length) := rfl
      clear hrow0 hWl
      go_wp2_with fail
      go_loopw [76] (fun kv wr => ∃ k : Nat, k ≤ P.length ∧ kv = .int .i64 k ∧ RowV wr wa.heap.size 4 (blV (Ef.fill (trues B.length) P (fun i => L.getD i false) k)) ∧ Below w2.heap.size w2 wr) (fun kv _ => P.length - (intOf kv).toNat)
      case atStart => exact ⟨0, Nat.zero_le _, rfl, HR3.out, HB3.out⟩
      case round =>
        obtain ⟨k, hk, rfl, hrow, hbel⟩ := hrel
        have HR := hide hrow
        have HBK := hide hbel
        by_cases hlt : k < P.length
        · obtain ⟨j, hj⟩ := at_some P k hlt
          have hjB : j < B.length := HLT.out j (List.mem_of_getElem? hj)
          obtain ⟨gp, op, rfl, _, _, hcp⟩ := (HCP.out.below HBK.out (Nat.le_refl _)) k _ (inV_get P k j hj)
          obtain ⟨old, hold⟩ := at_some (Ef.fill (trues B.length) P (fun i => L.getD i false) k) j (by rw [Ef.fill_len, trues_len]; exact hjB)
          have hc := hrow.cell j _ (blV_get _ _ _ hold)
          have hf := hrow.frozen j
          obtain ⟨lv, hlv⟩ := at_some L k (by rw [HLL.out, ← HPL.out]; exact hlt)
          obtain ⟨gl, ol, hal, _, _, hcl⟩ := (HL.out.below (below_trans HB2.out HBK.out) b3) k _ (blV_get L k lv hlv)
          cases hal
          have hkL : (k : Int) < (L.length : Int) := by have := HLL.out; have := HPL.out; omega
          have HVL : Hid (L.getD k false = lv) := getD_of L k lv false hlv
          clear hlv
          have HS : Hid ((blV (Ef.fill (trues B.length) P (fun i => L.getD i false) k)).set j (.bool lv) = blV (Ef.fill (trues B.length) P (fun i => L.getD i false) (k + 1))) := by
            rw [blV_set]
            show _ = blV ((Ef.fill (trues B.length) P (fun i => L.getD i false) k).set (P.getD k 0) (L.getD k false))
            rw [getD_of P k j 0 hj, HVL.out]
          clear hrow hbel hj hold
          go_wp2_with fail
          go_roundw
          case rel => exact ⟨k + 1, by omega, by go_num, by rw [← HS.out]; exact HR.out.set _ _, HBK.out.setCell (by show w2.heap.size ≤ wa.heap.size; omega) _⟩
          case measure => (simp [intOf]; try omega)
        · obtain rfl : k = P.length := by omega
          have HRM : Hid (RowV wr wa.heap.size 4 (blV (marksOut A B L))) := by rw [HMO.out]; exact hrow
          have hlm := HRM.out.lt
          have hswr := hbel.size
          obtain ⟨w4, rfl⟩ : ∃ w4 : World, w4 = wr := ⟨_, rfl⟩
          clear hrow hbel HR
          go_wp2_with fail
          obtain ⟨wb, hE2, hsb, hbb, hcb⟩ := one_new w4 #[.int .u64 (bit : Int)] 35
          rw [← hE2]
          clear hE2
          refine (F40 w4.heap.size 1 bit B.length wb (hcb 0 _ rfl) (by omega) (by omega)).mono ?_
          rintro _ w5 ⟨rfl, hrow5, hbel5⟩
          have HR5 : Hid (RowV w5 wb.heap.size 35 (wdV (bitsL B.length bit))) := by rw [← reps_bits]; exact hrow5
          have HB5 := hide (below_trans hbb hbel5)
          have hs5 := HB5.out.size
          have hl5 := hrow5.lt
          clear hrow5 hbel5 hbb hcb
          go_wp2_with fail
          go_loopw [102] (fun kv wr => ∃ k : Nat, k ≤ P.length ∧ kv = .int .i64 k ∧ RowV wr wb.heap.size 35 (wdV (Ef.fillW (bitsL B.length bit) P W k)) ∧ Below w4.heap.size w4 wr) (fun kv _ => P.length - (intOf kv).toNat)
          case atStart => exact ⟨0, Nat.zero_le _, rfl, HR5.out, HB5.out⟩
          case round =>
            obtain ⟨k, hk, rfl, hrow, hbel⟩ := hrel
            have HR := hide hrow
            have HBJ := hide hbel
            by_cases hlt : k < P.length
            · obtain ⟨j, hj⟩ := at_some P k hlt
              have hjB : j < B.length := HLT.out j (List.mem_of_getElem? hj)
              obtain ⟨gp, op, rfl, _, hgp, hcp⟩ := (HCP.out.below (below_trans HBK.out HBJ.out) (Nat.le_refl _)) k _ (inV_get P k j hj)
              obtain ⟨x, hx⟩ := at_some (Ef.fillW (bitsL B.length bit) P W k) j (by rw [Ef.fillW_len, bitsL_len]; exact hjB)
              obtain ⟨y, hy⟩ := at_some W k (by rw [HWL.out, ← HPL.out]; exact hlt)
              have hkW : (k : Int) < (W.length : Int) := by have := HWL.out; have := HPL.out; omega
              have hcx := hrow.cell j _ (wdV_get _ _ _ hx)
              have hf := hrow.frozen j
              have hcy := (HROW.out.below (below_trans HB2.out (below_trans HBK.out HBJ.out)) hgw).cell k _ (wdV_get W k y hy)
              have HOR : Hid (bits .or .u64 (x : Int) (y : Int) = ((x ||| y : Nat) : Int)) := u64_or_nat x y (fillW_lt _ P W (bitsL_lt _ _ hb) HWB.out k x (List.mem_of_getElem? hx)) (HWB.out y (List.mem_of_getElem? hy))
              have HS : Hid ((wdV (Ef.fillW (bitsL B.length bit) P W k)).set j (.int .u64 ((x ||| y : Nat) : Int)) = wdV (Ef.fillW (bitsL B.length bit) P W (k + 1))) := by
                rw [wdV_set]
                show _ = wdV ((Ef.fillW (bitsL B.length bit) P W k).set (P.getD k 0) ((Ef.fillW (bitsL B.length bit) P W k).getD (P.getD k 0) 0 ||| W.getD k 0))
                rw [getD_of P k j 0 hj, getD_of _ j x 0 hx, getD_of W k y 0 hy]
              have hjB' : (j : Int) < (B.length : Int) := by omega
              clear hrow hbel hj hx hy
              go_wp2_with fail
              go_region
              all_goals
                go_wp2_with fail
                go_roundw
                case rel =>
                  refine ⟨k + 1, by omega, by go_num, ?_, ?_⟩
                  · rw [← HS.out, HOR.out]
                    exact HR.out.set _ _
                  · first
                    | exact (HBJ.out.drew).setCell (by show w4.heap.size ≤ wb.heap.size; omega) _
                    | exact (HBJ.out.setCell (by show w4.heap.size ≤ wb.heap.size; omega) _).drew
                case measure => (simp [intOf]; try omega)
            · obtain rfl : k = P.length := by omega
              have HRW : Hid (RowV wr wb.heap.size 35 (wdV WO)) := by rw [HWO.out, HWS.out, ← HP.out]; exact hrow
              have HWOL : Hid (B.length = (waysOut3 (some ⟨gW, 0, none⟩) A B W bit).length) := by
                show _ = (Ef.fillW (bitsL B.length bit) (Ef.sub A B 0) W (Ef.sub A B 0).length).length
                rw [Ef.fillW_len, bitsL_len]
              have HRM2 := hide (HRM.out.below HBJ.out (by omega))
              have hswr2 := hbel.size
              clear hrow hbel HR
              go_wp2_with fail
              go_ret3
              refine ⟨⟨wa.heap.size, 0, none⟩, some ⟨wb.heap.size, 0, none⟩, B.length, tup3 HWOL.out, (HRM2.out.cellsAll).wide (by omega) (by omega), by simp, ?_, below_trans HB2.out (below_trans HBK.out HBJ.out)⟩
              have h := HRW.out
              rw [HWO.out] at h
              exact h.cellsAll.wide (by omega) (by have := HRW.out.lt; omega)
end Go.Proofs.Qxb6601135a
