/-
  efEmbed: the places that subsequence finds too.
-/
import Derived.Test.Qxb6601135aSub
namespace Go.Proofs.Qxb6601135a
open Go.ChangeShapes Go.WideShapes Go.ChangeAt Go.RowKit
set_option linter.unusedVariables false

theorem drop_at {α : Type} (l : List α) (k : Nat) (x : α) (h : l[k]? = some x) : l.drop k = x :: l.drop (k + 1) := by
  have hl : k < l.length := by
    rcases Nat.lt_or_ge k l.length with h' | h'
    · exact h'
    · rw [List.getElem?_eq_none h'] at h; cases h
  rw [List.drop_eq_getElem_cons hl]
  rw [List.getElem?_eq_getElem hl] at h
  cases h
  rfl

/-- What efEmbed answers: the places, where every field finds one. -/
def EmbP (A B : List ByteArray) (w : World) (e : Ending) (w' : World) : Prop :=
  Below w.heap.size w w' ∧
  (((Ef.sub A B 0).length = A.length ∧ e = .returned (.tuple #[.slice (some ⟨w.heap.size, 0, none⟩) A.length A.length, .bool true]) ∧ RowV w' w.heap.size 3 (inV (Ef.sub A B 0))) ∨
   ((Ef.sub A B 0).length ≠ A.length ∧ e = .returned (.tuple #[.slice none 0 0, .bool false])))

set_option maxHeartbeats 2000000 in
set_option maxRecDepth 100000 in
theorem F25 (aA aB : Option Addr) (cA cB l1 h1 l2 h2 : Nat) (A B : List ByteArray) (w : World) (hA : CellsIn w l1 h1 aA (strV A)) (hB : CellsIn w l2 h2 aB (strV B)) (b1 : h1 ≤ w.heap.size) (b2 : h2 ≤ w.heap.size)
    (n1 : A.length ≤ 200000) (n2 : B.length ≤ 200000) :
    Calls Try.prog 25 #[.slice aA A.length cA, .slice aB B.length cB] w (EmbP A B w) := by
  have HA := hide hA
  have HB := hide hB
  clear hA hB
  have hmk := make_run 42 3 (.int .i64 0) 8 Try.underlying42 Try.info3 rfl A.length (by omega) (by omega)
  go_enter Try.func25, Try.ntmps25
  go_wp2
  go_loopw [7, 8] (fun fv iv wr => ∃ (i f : Nat) (P : List Nat), i ≤ A.length ∧ f ≤ B.length ∧ iv = .int .i64 i ∧ fv = .int .i64 f ∧ P.length = i ∧ Ef.sub A B 0 = P ++ Ef.sub (A.drop i) (B.drop f) f ∧ RowV wr w.heap.size 3 (inV P ++ zrow (.int .i64 0) (A.length - (inV P).length)) ∧ Below w.heap.size w wr) (fun _ iv _ => A.length - (intOf iv).toNat)
  case atStart => exact ⟨0, 0, [], Nat.zero_le _, Nat.zero_le _, rfl, rfl, rfl, rfl, RowV.fresh w 3 (zrow (.int .i64 0) A.length), (Below.refl _ _).alloc (Nat.le_refl _) _⟩
  case round =>
    obtain ⟨i, f, P, hi, hf, rfl, rfl, hPl, hsub, hrow, hbel⟩ := hrel
    have HPL := hide hPl
    have HSUB := hide hsub
    have HROW := hide hrow
    have HBL := hide hbel
    clear hPl hsub hrow hbel
    by_cases hlt : i < A.length
    · obtain ⟨x, hx⟩ := at_some A i hlt
      have HDA := hide (drop_at A i x hx)
      obtain ⟨wo, rfl⟩ : ∃ wo : World, wo = wr := ⟨_, rfl⟩
      obtain ⟨g, o, rfl, _, _, hcx⟩ := HA.out i _ (strV_get A i x hx)
      have HCX := hide hcx
      clear hx hcx
      have hgs := HBL.out.size
      go_wp2_with fail
      go_loopw [9] (fun jv wr => ∃ j : Nat, j ≤ B.length ∧ jv = .int .i64 j ∧ Ef.sub (A.drop i) (B.drop f) f = Ef.sub (A.drop i) (B.drop j) j ∧ wr.heap = wo.heap ∧ Below w.heap.size w wr) (fun jv _ => B.length - (intOf jv).toNat)
      case atStart => exact ⟨f, hf, rfl, rfl, rfl, HBL.out⟩
      case round =>
        obtain ⟨j, hj, rfl, hsame, hheap, hbel2⟩ := hrel
        have HSA := hide hsame
        have HHE := hide hheap
        have HB2 := hide hbel2
        have hcx : wr.cell? ⟨g, o + i, none⟩ = some (.string x) := by
          obtain ⟨g', o', he, _, hlt', hc'⟩ := (HA.out.below hbel2 b1) i _ (show (strV A)[i]? = some (.string x) by
            have := congrArg List.head? HDA.out
            simp at this
            exact strV_get A i x this)
          cases he
          exact hc'
        clear hsame hheap hbel2
        by_cases hjl : j < B.length
        · obtain ⟨y, hy⟩ := at_some B j hjl
          have HDB := hide (drop_at B j y hy)
          obtain ⟨gb, ob, rfl, _, _, hcy⟩ := (HB.out.below HB2.out b2) j _ (strV_get B j y hy)
          have hjl' : (j : Int) < (B.length : Int) := by omega
          have hil' : (i : Int) < (A.length : Int) := by omega
          have hdt : decide ((j : Int) < (B.length : Int)) = true := decide_eq_true hjl'
          clear hy
          by_cases hxy : y = x
          · subst hxy
            have HNX : Hid (Ef.sub A B 0 = (P ++ [j]) ++ Ef.sub (A.drop (i + 1)) (B.drop (j + 1)) (j + 1)) := by
              show _ = _
              rw [HSUB.out, HSA.out, HDA.out, HDB.out, Ef.sub_hit, List.append_assoc]; rfl
            have hlk : (inV P).length = i := by rw [inV_len, HPL.out]
            have hrow2 : RowV wr w.heap.size 3 (inV P ++ zrow (.int .i64 0) (A.length - (inV P).length)) := by
              unfold RowV; rw [HHE.out]; exact HROW.out
            have hc := hrow2.cell i _ (by have := fill_get (inV P) (.int .i64 0) A.length (by omega); rwa [hlk] at this ⊢)
            have hfz := hrow2.frozen i
            have HS : Hid ((inV P ++ zrow (.int .i64 0) (A.length - (inV P).length)).set i (.int .i64 (j : Int)) = inV (P ++ [j]) ++ zrow (.int .i64 0) (A.length - (inV (P ++ [j])).length)) := by
              have h := fill_set (inV P) (.int .i64 0) (.int .i64 (j : Int)) A.length (by omega)
              rw [inV_snoc] at h
              rw [show (inV P).length = i from hlk] at h ⊢
              exact h
            have HR2 := hide hrow2
            clear hlk hrow2
            go_wp2_with fail
            go_quiet (fail)
            go_wp2_with fail
            go_roundw
            case rel => exact ⟨i + 1, j + 1, P ++ [j], by omega, by omega, by go_num, by go_num, by rw [List.length_append, HPL.out]; rfl, HNX.out, by rw [← HS.out]; exact HR2.out.set _ _, (below_drewN HB2.out _).setCell (Nat.le_refl _) _⟩
            case measure => (simp [intOf]; try omega)
          · have HNX : Hid (Ef.sub (A.drop i) (B.drop f) f = Ef.sub (A.drop i) (B.drop (j + 1)) (j + 1)) := by
              show _ = _
              rw [HSA.out, HDA.out, HDB.out, Ef.sub_miss _ _ _ _ _ (fun h => hxy h.symm)]
            have hne : (y.toList == x.toList) = false := by simp [toList_eq_iff, hxy]
            clear hxy
            go_wp2_with fail
            go_quiet (fail)
            go_wp2_with fail
            go_roundw
            case rel => exact ⟨j + 1, by omega, by go_num, HNX.out, HHE.out, below_drewN HB2.out _⟩
            case measure => (simp [intOf]; try omega)
        · have hdf : decide ((j : Int) < (B.length : Int)) = false := decide_eq_false (by omega)
          have HNO : Hid ((Ef.sub A B 0).length ≠ A.length) := by
            show _ ≠ _
            rw [HSUB.out, HSA.out, List.drop_of_length_le (by omega : B.length ≤ j), Ef.sub_nil_right, List.append_nil, HPL.out]; omega
          go_wp2_with fail
          go_quiet (fail)
          go_wp2_with fail
          go_ret2
          exact ⟨below_drewN HB2.out _, Or.inr ⟨HNO.out, rfl⟩⟩
    · have HFIN : Hid (Ef.sub A B 0 = P) := by
        show _ = _
        rw [HSUB.out, List.drop_of_length_le (by omega : A.length ≤ i), Ef.sub_nil_left, List.append_nil]
      have HR : Hid (RowV wr w.heap.size 3 (inV P)) := by
        have h := HROW.out
        rw [inV_len, HPL.out, show A.length - i = 0 from by omega] at h
        rw [show inV P = inV P ++ zrow (.int .i64 0) 0 from (List.append_nil _).symm]
        exact h
      go_wp2_with fail
      go_ret2
      exact ⟨HBL.out, Or.inl ⟨by rw [HFIN.out, HPL.out]; omega, rfl, by rw [HFIN.out]; exact HR.out⟩⟩
end Go.Proofs.Qxb6601135a
