/-
  eitherField where the first list is not found in the second: both lists, all lacked, the ways followed by one bit a field of the second.
-/
import Derived.Test.Qxb6601135aEither1
import Derived.Test.Qxb6601135aRepeat
import Derived.Test.Qxb6601135aConcat
namespace Go.Proofs.Qxb6601135a
open Go.ChangeShapes Go.WideShapes Go.ChangeAt Go.RowKit
set_option linter.unusedVariables false

def trues (n : Nat) : List Bool := List.replicate n true
def bitsL (n bit : Nat) : List Nat := List.replicate n bit
theorem reps_trues (n : Nat) : reps (.bool true) n = blV (trues n) := by simp [reps, blV, trues]
theorem reps_bits (n bit : Nat) : reps (.int .u64 (bit : Int)) n = wdV (bitsL n bit) := by simp [reps, wdV, bitsL]
theorem trues_len (n : Nat) : (trues n).length = n := by simp [trues]
theorem bitsL_len (n bit : Nat) : (bitsL n bit).length = n := by simp [bitsL]
theorem wdV_app (l m : List Nat) : wdV l ++ wdV m = wdV (l ++ m) := by simp [wdV]
theorem wds_oneCell (l : List Nat) : ∀ u ∈ wdV l, u.oneCell' = true := by
  intro u hu
  unfold wdV at hu
  obtain ⟨x, _, rfl⟩ := List.mem_map.1 hu
  rfl
/-- The ways that come back. -/
def waysOut (aW : Option Addr) (W : List Nat) (n bit : Nat) : List Nat := match aW with | none => [] | some _ => W ++ bitsL n bit

def E2P (aW : Option Addr) (gW : Nat) (A B : List ByteArray) (W : List Nat) (bit : Nat) (w : World) (e : Ending) (w' : World) : Prop :=
  ∃ adF cF adL aW' cW', e = .returned (.tuple #[.slice (some adF) (A.length + B.length) cF, .slice (some adL) (A.length + B.length) (A.length + B.length), .slice aW' (waysOut aW W B.length bit).length cW']) ∧
    CellsIn w' w.heap.size w'.heap.size (some adF) (strV (A ++ B)) ∧ CellsIn w' w.heap.size w'.heap.size (some adL) (blV (trues (A.length + B.length))) ∧
    (aW' = none ↔ aW = none) ∧ CellsIn w' gW w'.heap.size aW' (wdV (waysOut aW W B.length bit)) ∧ Below w.heap.size w w'

/-- The facts on a world with one new block. -/
theorem one_new (w : World) (cs : Array Value) (t : TypeId) : ∃ wa, wa = w.alloc (.cells cs t) ∧ w.heap.size < wa.heap.size ∧ Below w.heap.size w wa ∧ ∀ i v, cs[i]? = some v → wa.cell? ⟨w.heap.size, i, none⟩ = some v :=
  ⟨_, rfl, by simp, (Below.refl _ _).alloc (Nat.le_refl _) _, fun i v h => by rw [World.cell?_alloc_at _ _ _ _ rfl]; exact h⟩

/-- The last statement: both lists and the marks. -/
theorem below_trans {w w1 w2 : World} (h : Below w.heap.size w w1) (k : Below w1.heap.size w1 w2) : Below w.heap.size w w2 := h.trans (k.mono h.size)

theorem tup3 {f l : Value} {a : Option Addr} {n m c : Nat} (h : n = m) : Ending.returned (.tuple #[f, l, .slice a n c]) = .returned (.tuple #[f, l, .slice a m c]) := by rw [h]

set_option maxHeartbeats 2000000 in
set_option maxRecDepth 100000 in
theorem E2 (aA aL aW aB : Option Addr) (gW l1 h1 l2 h2 nL bit : Nat) (A B : List ByteArray) (W : List Nat) (w : World) (hA : CellsIn w l1 h1 aA (strV A)) (hB : CellsIn w l2 h2 aB (strV B)) (b1 : h1 ≤ w.heap.size) (b2 : h2 ≤ w.heap.size)
    (n1 : A.length ≤ 70000) (n3 : B.length ≤ 70000) (n2 : W.length ≤ 70000) (hb : bit < 18446744073709551616)
    (hW : (aW = none ∧ W = []) ∨ (aW = some ⟨gW, 0, none⟩ ∧ RowV w gW 35 (wdV W)))
    (hne : A ≠ B) (hns : (Ef.sub A B 0).length ≠ A.length) :
    Calls Try.prog 34 #[.slice aA A.length A.length, .slice aL nL nL, .slice aW W.length W.length, .slice aB B.length B.length, .int .u64 (bit : Int)] w (E2P aW gW A B W bit w) := by
  have HA := hide hA
  have HB := hide hB
  clear hA hB
  have hpos : 0 < A.length := by
    rcases Nat.eq_zero_or_pos A.length with h | h
    · exfalso; apply hns
      have := Ef.sub_len_le B A 0; omega
    · exact h
  obtain ⟨adA, rfl⟩ : ∃ adA, aA = some adA := by
    obtain ⟨x, hx⟩ := at_some A 0 hpos
    obtain ⟨g', o', ha, _⟩ := HA.out 0 _ (strV_get _ _ _ hx)
    exact ⟨_, ha⟩
  have hnl := fun (wx : World) (a : Option Addr) (n c : Nat) => run_neq_slice_nil_any (P := Try.prog) wx 34 35 a n c 0 0 Try.underlying34
  have HNE := hide hne
  have HNS := hide hns
  clear hne hns
  rcases hW with ⟨rfl, rfl⟩ | ⟨rfl, hrow⟩
  · go_enter Try.func34, Try.ntmps34
    go_wp2_with fail
    refine (F38 _ aB _ _ l1 h1 l2 h2 A B _ HA.out HB.out b1 b2 (by omega) (by omega)).mono ?_
    rintro _ w1 ⟨rfl, hbel1⟩
    rw [decide_eq_false HNE.out]
    have HB1 := hide hbel1
    have hs1 := hbel1.size
    clear hbel1
    go_wp2_with fail
    refine (F39 _ aB _ _ l1 h1 l2 h2 A B _ (HA.out.below HB1.out b1) (HB.out.below HB1.out b2) (by omega) (by omega) (by omega) (by omega)).mono ?_
    rintro _ w2 ⟨a', cap', rfl, _, hbel2⟩
    rw [decide_eq_false HNS.out]
    have HB2 := hide (below_trans HB1.out hbel2)
    have hs2 := HB2.out.size
    clear hbel2
    go_wp2_with fail
    have HWC : Hid (CellsIn w2 gW w2.heap.size none (wdV (waysOut none [] B.length bit))) := CellsIn.nil _ _ _ _
    obtain ⟨wa, hE, hsa, hba, hca⟩ := one_new w2 #[.slice (some adA) A.length A.length, .slice aB B.length B.length] 32
    rw [← hE]
    have HBA := hide (below_trans HB2.out hba)
    have hBA := HBA.out.size
    clear hE
    refine (F41 w2.heap.size 2 adA aB _ l1 h1 l2 h2 A B wa (HA.out.below HBA.out b1) (HB.out.below HBA.out b2) (by omega) (by omega) (by omega) (hca 0 _ rfl) (hca 1 _ rfl) (by omega) (by omega) hpos).mono ?_
    rintro _ w5 ⟨adF, cF, rfl, hcF, hbel5⟩
    have HCF := hide hcF
    have HB5a := hide hbel5
    have HB5 := hide (below_trans HBA.out hbel5)
    have hs5 := hbel5.size
    have HWC5 := hide ((HWC.out.below (below_trans hba hbel5) (Nat.le_refl _)))
    clear hcF hbel5 hca hba
    go_wp2_with fail
    obtain ⟨wb, hE2, hsb, hbb, hcb⟩ := one_new w5 #[.bool true] 4
    rw [← hE2, show ((A.length : Int) + (B.length : Int)) = ((A.length + B.length : Nat) : Int) from by omega]
    clear hE2
    refine (F42 w5.heap.size 1 true (A.length + B.length) wb (hcb 0 _ rfl) (by omega) (by omega)).mono ?_
    rintro _ w6 ⟨rfl, hrow6, hbel6⟩
    have HR6 := hide hrow6
    have HBb := hide (below_trans hbb hbel6)
    have hs6 := hbel6.size
    have hl6 := hrow6.lt
    clear hrow6 hbel6 hcb hbb
    go_wp2_with fail
    go_ret3
    have hBB := HBb.out.size
    refine ⟨adF, cF, ⟨wb.heap.size, 0, none⟩, none, 0, rfl, (HCF.out.below HBb.out (Nat.le_refl _)).wide (by omega) (by omega), ?_, by simp, (HWC5.out.below HBb.out (by omega)).wide (Nat.le_refl _) (by omega), below_trans HB5.out HBb.out⟩
    have h := HR6.out
    rw [reps_trues] at h
    exact h.cellsAll.wide (by omega) (by omega)
  · have HROW := hide hrow
    have hgw := hrow.lt
    clear hrow
    obtain ⟨i0, hi, hz0, hz1, hz2⟩ := info_parts Try.info35
    go_enter Try.func34, Try.ntmps34
    go_wp2_with fail
    refine (F38 _ aB _ _ l1 h1 l2 h2 A B _ HA.out HB.out b1 b2 (by omega) (by omega)).mono ?_
    rintro _ w1 ⟨rfl, hbel1⟩
    rw [decide_eq_false HNE.out]
    have HB1 := hide hbel1
    have hs1 := hbel1.size
    clear hbel1
    go_wp2_with fail
    refine (F39 _ aB _ _ l1 h1 l2 h2 A B _ (HA.out.below HB1.out b1) (HB.out.below HB1.out b2) (by omega) (by omega) (by omega) (by omega)).mono ?_
    rintro _ w2 ⟨a', cap', rfl, _, hbel2⟩
    rw [decide_eq_false HNS.out]
    have HB2 := hide (below_trans HB1.out hbel2)
    have hs2 := HB2.out.size
    clear hbel2
    go_wp2_with fail
    obtain ⟨wc, hE3, hsc, hbc, hcc⟩ := one_new w2 #[.int .u64 (bit : Int)] 35
    rw [← hE3]
    clear hE3
    refine (F40 w2.heap.size 1 bit B.length wc (hcc 0 _ rfl) (by omega) (by omega)).mono ?_
    rintro _ w3 ⟨rfl, hrow3, hbel3⟩
    have HB3 := hide (below_trans (below_trans HB2.out hbc) hbel3)
    have hs3 := HB3.out.size
    have hs3' := hbel3.size
    have HR3 := hide hrow3
    have HRW := hide (HROW.out.below HB3.out hgw)
    clear hrow3 hbel3 hbc hcc
    by_cases hB0 : B.length = 0
    · have HRUN : Hid ((Builtin.append_ #[34, 34] 34 #[.slice (some ⟨gW, 0, none⟩) W.length W.length, .slice (some ⟨wc.heap.size, 0, none⟩) B.length B.length]).run Try.prog w3 = .ok (.slice (some ⟨gW, 0, none⟩) (W.length + B.length) W.length) w3) :=
        run_append_room_cells (P := Try.prog) w3 34 34 35 i0 Try.underlying34 hi gW 0 W.length W.length ⟨wc.heap.size, 0, none⟩ B.length B.length [] (by rw [hB0]; simp) (fun j u h => by simp at h) (fun u h => by simp at h) (by omega) (fun j h => by simp at h) (fun j h => by simp at h)
      have HWC : Hid (CellsIn w3 gW w3.heap.size (some ⟨gW, 0, none⟩) (wdV (waysOut (some ⟨gW, 0, none⟩) W B.length bit))) := by
        rw [hB0]
        show CellsIn _ _ _ _ (wdV (W ++ bitsL 0 bit))
        rw [show W ++ bitsL 0 bit = W from List.append_nil _]
        exact HRW.out.cellsAll.wide (Nat.le_refl _) (by omega)
      have HLE : Hid (W.length + B.length = (waysOut (some ⟨gW, 0, none⟩) W B.length bit).length) := by
        show _ = (W ++ bitsL B.length bit).length
        rw [List.length_append, bitsL_len]
      have HB0 := hide hB0
      clear hB0
      go_wp2_with (first | (at_builtin; refine Lib.wpList_append_run _ rfl (.tmp 51) (.tmp 56) 34 34 rfl _ _ rfl rfl _ _ HRUN.out ?_))
      obtain ⟨wa, hE, hsa, hba, hca⟩ := one_new w3 #[.slice (some adA) A.length A.length, .slice aB B.length B.length] 32
      rw [← hE]
      have HBA := hide (below_trans HB3.out hba)
      have hBA := HBA.out.size
      clear hE
      refine (F41 w3.heap.size 2 adA aB _ l1 h1 l2 h2 A B wa (HA.out.below HBA.out b1) (HB.out.below HBA.out b2) (by omega) (by omega) (by omega) (hca 0 _ rfl) (hca 1 _ rfl) (by omega) (by omega) hpos).mono ?_
      rintro _ w5 ⟨adF, cF, rfl, hcF, hbel5⟩
      have HCF := hide hcF
      have HB5a := hide hbel5
      have HB5 := hide (below_trans HBA.out hbel5)
      have hs5 := hbel5.size
      have HWC5 := hide ((HWC.out.below (below_trans hba hbel5) (Nat.le_refl _)))
      clear hcF hbel5 hca hba
      go_wp2_with fail
      obtain ⟨wb, hE2, hsb, hbb, hcb⟩ := one_new w5 #[.bool true] 4
      rw [← hE2, show ((A.length : Int) + (B.length : Int)) = ((A.length + B.length : Nat) : Int) from by omega]
      clear hE2
      refine (F42 w5.heap.size 1 true (A.length + B.length) wb (hcb 0 _ rfl) (by omega) (by omega)).mono ?_
      rintro _ w6 ⟨rfl, hrow6, hbel6⟩
      have HR6 := hide hrow6
      have HBb := hide (below_trans hbb hbel6)
      have hs6 := hbel6.size
      have hl6 := hrow6.lt
      clear hrow6 hbel6 hcb hbb
      go_wp2_with fail
      go_ret3
      have hBB := HBb.out.size
      refine ⟨adF, cF, ⟨wb.heap.size, 0, none⟩, some ⟨gW, 0, none⟩, W.length, tup3 HLE.out, (HCF.out.below HBb.out (Nat.le_refl _)).wide (by omega) (by omega), ?_, by simp, (HWC5.out.below HBb.out (by omega)).wide (Nat.le_refl _) (by omega), below_trans HB5.out HBb.out⟩
      have h := HR6.out
      rw [reps_trues] at h
      exact h.cellsAll.wide (by omega) (by omega)
    · have HM1 : Hid (W.length + B.length ≤ maxLen) := by unfold maxLen; show _ ≤ _; omega
      have HM2 : Hid ((W.length + B.length) * 8 ≤ 140737488355328) := by show _ ≤ _; omega
      have HM3 : Hid (W.length < W.length + B.length) := by show _ < _; omega
      have HOL : Hid (∀ b, (some ⟨gW, 0, none⟩ : Option Addr) = some b → ∀ j u, (wdV W)[j]? = some u → w3.cell? (b.add j) = some u) := fun b hb j u hj => by
        cases hb
        exact HRW.out.cellsAll.at j u hj
      have HNW : Hid (∀ j u, (wdV (bitsL B.length bit))[j]? = some u → w3.cell? ((⟨wc.heap.size, 0, none⟩ : Addr).add j) = some u) := by
        have h := HR3.out
        rw [reps_bits] at h
        exact h.cellsAll.at
      have HLB : Hid ((wdV (bitsL B.length bit)).length = B.length * 1) := by rw [wdV_len, bitsL_len, Nat.mul_one]; rfl
      have HLW : Hid ((wdV W).length = W.length * 1) := by rw [wdV_len, Nat.mul_one]; rfl
      go_wp2_with (first | (at_builtin; refine wpList_append_grows _ rfl (.tmp 51) (.tmp 56) 34 rfl 35 i0 (.int .u64 0) 1 8 Try.underlying34 hi hz0 hz1 hz2 rfl (by decide) (some ⟨gW, 0, none⟩) W.length W.length (wdV W) rfl (fun h => by cases h) HLW.out HOL.out ⟨wc.heap.size, 0, none⟩ B.length B.length (wdV (bitsL B.length bit)) rfl HLB.out HNW.out (wds_oneCell _) HM3.out HM1.out HM2.out ?_))
      intro v' w4 hown hgrow
      replace hown : w4.ownsRow w3.heap.size 35 1 v' (W.length + B.length) (wdV (W ++ bitsL B.length bit)) := by rw [← wdV_app]; exact hown
      obtain ⟨a4, cap4, rfl, hcl⟩ := owns_form hown
      have hb4 : Below w3.heap.size w3 w4 := ⟨hgrow.os, hgrow.tape, hgrow.output, hgrow.size, fun k hk => hgrow.block k hk (by simp)⟩
      have HB4 := hide (below_trans HB3.out hb4)
      have hs4 := HB4.out.size
      obtain ⟨ad4, rfl⟩ : ∃ ad4, a4 = some ad4 := by
        obtain ⟨x, hx⟩ := at_some (W ++ bitsL B.length bit) 0 (by rw [List.length_append, bitsL_len]; omega)
        obtain ⟨g', o', ha, _⟩ := hcl 0 _ (wdV_get _ _ _ hx)
        exact ⟨_, ha⟩
      have HWC : Hid (CellsIn w4 gW w4.heap.size (some ad4) (wdV (waysOut (some ⟨gW, 0, none⟩) W B.length bit))) := hcl.wide (by omega) (Nat.le_refl _)
      have HLE : Hid (W.length + B.length = (waysOut (some ⟨gW, 0, none⟩) W B.length bit).length) := by
        show _ = (W ++ bitsL B.length bit).length
        rw [List.length_append, bitsL_len]
      clear hown hgrow hb4 hcl HOL HNW
      go_wp2_with fail
      obtain ⟨wa, hE, hsa, hba, hca⟩ := one_new w4 #[.slice (some adA) A.length A.length, .slice aB B.length B.length] 32
      rw [← hE]
      have HBA := hide (below_trans HB4.out hba)
      have hBA := HBA.out.size
      clear hE
      refine (F41 w4.heap.size 2 adA aB _ l1 h1 l2 h2 A B wa (HA.out.below HBA.out b1) (HB.out.below HBA.out b2) (by omega) (by omega) (by omega) (hca 0 _ rfl) (hca 1 _ rfl) (by omega) (by omega) hpos).mono ?_
      rintro _ w5 ⟨adF, cF, rfl, hcF, hbel5⟩
      have HCF := hide hcF
      have HB5a := hide hbel5
      have HB5 := hide (below_trans HBA.out hbel5)
      have hs5 := hbel5.size
      have HWC5 := hide ((HWC.out.below (below_trans hba hbel5) (Nat.le_refl _)))
      clear hcF hbel5 hca hba
      go_wp2_with fail
      obtain ⟨wb, hE2, hsb, hbb, hcb⟩ := one_new w5 #[.bool true] 4
      rw [← hE2, show ((A.length : Int) + (B.length : Int)) = ((A.length + B.length : Nat) : Int) from by omega]
      clear hE2
      refine (F42 w5.heap.size 1 true (A.length + B.length) wb (hcb 0 _ rfl) (by omega) (by omega)).mono ?_
      rintro _ w6 ⟨rfl, hrow6, hbel6⟩
      have HR6 := hide hrow6
      have HBb := hide (below_trans hbb hbel6)
      have hs6 := hbel6.size
      have hl6 := hrow6.lt
      clear hrow6 hbel6 hcb hbb
      go_wp2_with fail
      go_ret3
      have hBB := HBb.out.size
      refine ⟨adF, cF, ⟨wb.heap.size, 0, none⟩, some ad4, cap4, tup3 HLE.out, (HCF.out.below HBb.out (Nat.le_refl _)).wide (by omega) (by omega), ?_, by simp, (HWC5.out.below HBb.out (by omega)).wide (Nat.le_refl _) (by omega), below_trans HB5.out HBb.out⟩
      have h := HR6.out
      rw [reps_trues] at h
      exact h.cellsAll.wide (by omega) (by omega)
end Go.Proofs.Qxb6601135a
