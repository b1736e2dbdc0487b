/-
  slices.Grow of the nil slice, slices.Concat of two slices of strings.
-/
import Derived.Test.Qxb6601135aSub
import Derived.Lib.AppendZeros
import Derived.Laws.AppendOwnNone
namespace Go.Proofs.Qxb6601135a
open Go.ChangeShapes Go.WideShapes Go.ChangeAt Go.RowKit
set_option linter.unusedVariables false

set_option maxHeartbeats 1000000 in
theorem F47 (n : Nat) (w : World) (h0 : 0 < n) (hn : n ≤ 400000) :
    Calls Try.prog 47 #[.slice none 0 0, .int .i64 (n : Int)] w fun e w' => ∃ v, e = .returned v ∧ w'.ownsRow w.heap.size 9 1 v 0 [] ∧ Below w.heap.size w w' := by
  obtain ⟨i0, hi, hz0, hz1, hz2⟩ := info_parts Try.info9
  have hr := Lib.run_append_nil_zeros (P := Try.prog) w 32 3 32 9 i0 (.string ⟨#[]⟩) .i64 .i64 Try.underlying32 Try.underlying3 hi hz0 n h0 (by rw [hz1]; omega) (by omega) (by rw [hz2]; omega)
  have HR := hide hr
  have hge := grownCap_ge w n 0 9
  have HCM := hide (grownCap_le_maxLen w n 0 9 (by unfold maxLen; omega))
  obtain ⟨C, hC⟩ : ∃ C, C = grownCap w n 0 9 := ⟨_, rfl⟩
  obtain ⟨cells, hcells⟩ : ∃ cells, cells = Builtin.zeroCells (Value.string ⟨#[]⟩).cells n ++ Builtin.zeroCells (Value.string ⟨#[]⟩).cells (grownCap w n 0 9 - n) := ⟨_, rfl⟩
  have HSZ : Hid (cells.size = C * 1) := by
    rw [hcells, Array.size_append, size_zeroCells, size_zeroCells, hC]
    show n * 1 + (grownCap w n 0 9 - n) * 1 = grownCap w n 0 9 * 1
    omega
  rw [← hcells, ← hC] at HR
  rw [← hC] at hge HCM
  clear hr hC hcells
  go_enter Try.func47, Try.ntmps47
  go_wp2_with (first | (at_builtin; refine Lib.wpList_append_run _ rfl _ _ 32 3 rfl _ _ rfl rfl _ _ HR.out ?_))
  go_ret
  refine ⟨_, rfl, ⟨rfl, Or.inr ⟨w.heap.size, C, cells, ?_, Nat.le_refl _, heap_alloc_new w _, Nat.zero_le _, HCM.out, HSZ.out, by simp⟩⟩, ((Below.refl _ _).alloc (Nat.le_refl _) _).drew⟩
  simp

theorem CellsIn.at {w : World} {lo hi : Nat} {ad : Addr} {xs : List Value} (h : CellsIn w lo hi (some ad) xs) : ∀ j u, xs[j]? = some u → w.cell? (ad.add j) = some u := fun j u hj => by
  obtain ⟨g, o, ha, _, _, hc⟩ := h j u hj
  cases ha
  rw [add_plain]; exact hc
theorem strs_oneCell (l : List ByteArray) : ∀ u ∈ strV l, u.oneCell' = true := by
  intro u hu
  unfold strV at hu
  obtain ⟨x, _, rfl⟩ := List.mem_map.1 hu
  rfl
theorem strV_app (l m : List ByteArray) : strV l ++ strV m = strV (l ++ m) := by simp [strV]

/-- What slices.Concat of two slices answers: a slice that is not nil. -/
def CatP (A B : List ByteArray) (w : World) (e : Ending) (w' : World) : Prop :=
  ∃ ad' cap', e = .returned (.slice (some ad') (A ++ B).length cap') ∧ CellsIn w' w.heap.size w'.heap.size (some ad') (strV (A ++ B)) ∧ Below w.heap.size w w'

set_option maxHeartbeats 2000000 in
set_option maxRecDepth 100000 in
theorem F41 (g cg : Nat) (adA : Addr) (aB : Option Addr) (cA l1 h1 l2 h2 : Nat) (A B : List ByteArray) (w : World) (hA : CellsIn w l1 h1 (some adA) (strV A)) (hB : CellsIn w l2 h2 aB (strV B)) (b1 : h1 ≤ w.heap.size) (b2 : h2 ≤ w.heap.size)
    (hg : g < w.heap.size) (hg0 : w.cell? ⟨g, 0, none⟩ = some (.slice (some adA) A.length cA)) (hg1 : w.cell? ⟨g, 1, none⟩ = some (.slice aB B.length B.length)) (n1 : A.length ≤ 200000) (n2 : B.length ≤ 200000) (hne : 0 < A.length) :
    Calls Try.prog 41 #[.slice (some ⟨g, 0, none⟩) 2 cg] w (CatP A B w) := by
  obtain ⟨i0, hi, hz0, hz1, hz2⟩ := info_parts Try.info9
  have HA := hide hA
  have HB := hide hB
  clear hA hB
  go_enter Try.func41, Try.ntmps41
  go_wp2_with fail
  refine wp_loop_rounds 3 ?_
  rw [rounds_succ]
  go_wp2_with fail
  rw [rounds_succ]
  go_wp2_with fail
  rw [rounds_succ]
  go_wp2_with fail
  rw [show ((A.length : Int) + (B.length : Int)) = ((A.length + B.length : Nat) : Int) from by omega]
  refine (F47 (A.length + B.length) _ (by omega) (by omega)).mono ?_
  rintro _ w1 ⟨v, rfl, hown, hbel⟩
  have HA1 := hide ((HA.out.below hbel b1).at)
  have HB1 := hide hbel
  have hc0 := (hbel.cell (p := ⟨g, 0, none⟩) hg).trans hg0
  have hs1 := hbel.size
  have HM1 : Hid (0 + A.length ≤ maxLen) := by unfold maxLen; show _ ≤ _; omega
  have HM2 : Hid ((0 + A.length) * 16 ≤ 140737488355328) := by show _ ≤ _; omega
  clear hbel
  go_wp2_with fail
  refine wp_loop_rounds 3 ?_
  rw [rounds_succ]
  go_wp2_with (first | (at_builtin; refine wpList_append_own _ rfl (.tmp 31) (.tmp 32) 32 rfl w.heap.size 9 i0 (.string ⟨#[]⟩) 1 16 Try.underlying32 hi hz0 hz1 hz2 rfl (by decide) v 0 [] rfl hown adA A.length cA (strV A) rfl (by rw [strV_len, Nat.mul_one]) HA1.out (strs_oneCell _) HM1.out HM2.out hs1 ?_))
  intro v1 w2 hown1 hgrow1 _
  have hob := World.ownsRow.lt hown
  have hbel2 : Below w.heap.size w w2 := HB1.out.grown hgrow1 hs1 (fun k hk => (hob k hk).1)
  have hc1 := (hbel2.cell (p := ⟨g, 1, none⟩) hg).trans hg1
  have HB2 := hide hbel2
  have hs2 := hbel2.size
  have HC2 := hide (HB.out.below hbel2 b2)
  have HM3 : Hid (A.length + B.length ≤ maxLen) := by unfold maxLen; show _ ≤ _; omega
  have HM4 : Hid ((A.length + B.length) * 16 ≤ 140737488355328) := by show _ ≤ _; omega
  clear hown hgrow1 hob hbel2 HA1 hc0 HM1 HM2
  go_wp2_with fail
  rw [rounds_succ]
  cases aB with
  | none =>
    obtain rfl := strV_nil B (nil_of_none HC2.out)
    go_wp2_with (first | (at_builtin; refine wpList_append_own_none rfl (.tmp 31) (.tmp 32) 32 rfl w.heap.size 9 i0 1 Try.underlying32 hi v1 A.length (strV A) rfl hown1 rfl ?_))
    obtain ⟨a', cap', rfl, hcl⟩ := owns_form hown1
    obtain ⟨ad', rfl⟩ : ∃ ad', a' = some ad' := by
      obtain ⟨x, hx⟩ := at_some A 0 hne
      obtain ⟨g', o', ha, _⟩ := hcl 0 _ (strV_get _ _ _ hx)
      exact ⟨_, ha⟩
    have HCL := hide hcl
    clear hown1 hcl
    rw [rounds_succ]
    go_wp2_with fail
    go_ret
    exact ⟨ad', cap', by rw [List.append_nil]; rfl, by rw [List.append_nil]; exact HCL.out, HB2.out⟩
  | some adB =>
    have HB3 := hide HC2.out.at
    go_wp2_with (first | (at_builtin; refine wpList_append_own _ rfl (.tmp 31) (.tmp 32) 32 rfl w.heap.size 9 i0 (.string ⟨#[]⟩) 1 16 Try.underlying32 hi hz0 hz1 hz2 rfl (by decide) v1 A.length (strV A) rfl hown1 adB B.length B.length (strV B) rfl (by rw [strV_len, Nat.mul_one]) HB3.out (strs_oneCell _) HM3.out HM4.out hs2 ?_))
    intro v2 w3 hown2 hgrow2 _
    replace hown2 : w3.ownsRow w.heap.size 9 1 v2 (A ++ B).length (strV (A ++ B)) := by rw [← strV_app, List.length_append]; exact hown2
    have hob := World.ownsRow.lt hown1
    have hbel3 : Below w.heap.size w w3 := HB2.out.grown hgrow2 hs2 (fun k hk => (hob k hk).1)
    obtain ⟨a', cap', rfl, hcl⟩ := owns_form hown2
    obtain ⟨ad', rfl⟩ : ∃ ad', a' = some ad' := by
      obtain ⟨x, hx⟩ := at_some (A ++ B) 0 (by rw [List.length_append]; omega)
      obtain ⟨g', o', ha, _⟩ := hcl 0 _ (strV_get _ _ _ hx)
      exact ⟨_, ha⟩
    have HCL := hide hcl
    have HBL := hide hbel3
    clear hown1 hown2 hgrow2 hob hbel3 hcl
    go_wp2_with fail
    rw [rounds_succ]
    go_wp2_with fail
    go_ret
    exact ⟨ad', cap', rfl, HCL.out, HBL.out⟩
end Go.Proofs.Qxb6601135a
