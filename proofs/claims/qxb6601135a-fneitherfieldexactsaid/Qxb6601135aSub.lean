/-
  subsequence and efEmbed: both find the same places.
-/
import Derived.Test.Qxb6601135aClone
namespace Go.Proofs.Qxb6601135a
open Go.ChangeShapes Go.WideShapes Go.ChangeAt Go.RowKit
set_option linter.unusedVariables false

theorem owns_form {w : World} {base : Nat} {e : TypeId} {v : Value} {n : Nat} {xs : List Value} (h : w.ownsRow base e 1 v n xs) :
    ∃ a cap, v = .slice a n cap ∧ CellsIn w base w.heap.size a xs := by
  obtain ⟨hl, h2⟩ := owns_cases h
  rcases h2 with ⟨hv, hn⟩ | ⟨g, cap, hv, hb, hg, _, _, hc⟩
  · subst hn
    exact ⟨none, 0, hv, by rw [List.eq_nil_of_length_eq_zero hl]; exact CellsIn.nil _ _ _ _⟩
  · exact ⟨some ⟨g, 0, none⟩, cap, hv, fun j u hj => ⟨g, 0, rfl, hb, hg, by rw [Nat.zero_add]; exact hc j u hj⟩⟩
theorem make0_run (t e : TypeId) (z : Value) (bytes : Nat) (ht : Try.prog.underlying t = some (.slice e)) (hinfo : (Try.prog.info? e).map (fun i => (i.zero, i.size, i.bytes)) = some (some z, 1, bytes)) (hz1 : z.cells = #[z])
    (n : Nat) (hn : bytes * n ≤ 281474976710656) (h63 : n ≤ 9223372036854775807) (w : World) :
    (Instr.makeSlice t (.int .i64 0) (.int .i64 (n : Int))).run Try.prog w = .ok (.slice (some ⟨w.heap.size, 0, none⟩) 0 n) (w.alloc (.cells (zrow z n).toArray e)) := by
  obtain ⟨i, hi, hzz⟩ := Option.map_eq_some_iff.1 hinfo
  simp only [Prod.mk.injEq] at hzz
  obtain ⟨hz, hs, hb⟩ := hzz
  have hr := run_make (P := Try.prog) w t e i z ht hi hz .i64 .i64 0 (n : Int) (Int.le_refl _) (by omega) (by rw [hb, ← Int.natCast_mul]; omega) (by omega)
  simp only [Int.toNat_zero, Int.toNat_natCast, hs, Nat.mul_one, hz1, made_zrow] at hr
  exact hr
theorem own_made (w : World) (e : TypeId) (z : Value) (n : Nat) (hn : n ≤ 200000) : (w.alloc (.cells (zrow z n).toArray e)).ownsRow w.heap.size e 1 (.slice (some ⟨w.heap.size, 0, none⟩) 0 n) 0 [] :=
  World.ownsRow_made w _ n (Nat.le_refl _) (by unfold maxLen; omega) (by simp [zrow])
theorem one_cell_int (k : IntKind) (n : Int) : ∀ u ∈ [Value.int k n], u.oneCell' = true := by
  intro u hu; simp at hu; subst hu; rfl
theorem ret_pair {v : Value} {a b : Bool} (h : a = b) : Ending.returned (.tuple #[v, .bool a]) = .returned (.tuple #[v, .bool b]) := by rw [h]

/-- What subsequence answers. -/
def SubP (A B : List ByteArray) (w : World) (e : Ending) (w' : World) : Prop :=
  ∃ a' cap', e = .returned (.tuple #[.slice a' (Ef.sub A B 0).length cap', .bool (decide ((Ef.sub A B 0).length = A.length))]) ∧ CellsIn w' w.heap.size w'.heap.size a' (inV (Ef.sub A B 0)) ∧ Below w.heap.size w w'

set_option maxHeartbeats 1000000 in
set_option maxRecDepth 100000 in
theorem F39 (aA aB : Option Addr) (cA cB l1 h1 l2 h2 : Nat) (A B : List ByteArray) (w : World) (hA : CellsIn w l1 h1 aA (strV A)) (hB : CellsIn w l2 h2 aB (strV B)) (b1 : h1 ≤ w.heap.size) (b2 : h2 ≤ w.heap.size)
    (n1 : A.length ≤ 200000) (n2 : B.length ≤ 200000) :
    Calls Try.prog 39 #[.slice aA A.length cA, .slice aB B.length cB] w (SubP A B w) := by
  have HA := hide hA
  have HB := hide hB
  clear hA hB
  have hmk := make0_run 42 3 (.int .i64 0) 8 Try.underlying42 Try.info3 rfl A.length (by omega) (by omega)
  obtain ⟨i0, hi, hz0, hz1, hz2⟩ := info_parts Try.info3
  go_enter Try.func39, Try.ntmps39
  go_wp2
  go_loopw [6, 14] (fun v jv wr => ∃ (k : Nat) (P : List Nat), k ≤ B.length ∧ jv = .int .i64 k ∧ P = Ef.sub A (B.take k) 0 ∧ wr.ownsRow w.heap.size 3 1 v P.length (inV P) ∧ Below w.heap.size w wr) (fun _ jv _ => B.length - (intOf jv).toNat)
  case atStart => exact ⟨0, [], Nat.zero_le _, rfl, by rw [List.take_zero, Ef.sub_nil_right], own_made w 3 _ _ n1, (Below.refl _ _).alloc (Nat.le_refl _) _⟩
  case round =>
    obtain ⟨k, P, hk, rfl, hP, hown, hbel⟩ := hrel
    have hPl : P.length ≤ A.length := by rw [hP]; exact Ef.sub_len_le _ _ _
    have HP := hide hP
    clear hP
    obtain ⟨a', cap', rfl, hcl⟩ := owns_form hown
    have HCL := hide hcl
    have HBL := hide hbel
    clear hcl hbel
    by_cases hlt : k < B.length
    · obtain ⟨y, hy⟩ := at_some B k hlt
      obtain ⟨g, o, rfl, _, hgb, hcy⟩ := (HB.out.below HBL.out b2) k _ (strV_get B k y hy)
      have HSN : Hid (Ef.sub A (B.take (k + 1)) 0 = P ++ (if A[P.length]? = some y then [k] else [])) := by
        show _ = _
        rw [take_at B k y hy, Ef.sub_snoc, ← HP.out, Nat.zero_add, len_take B k hk]
      clear hy
      by_cases hl2 : P.length < A.length
      · obtain ⟨x, hx⟩ := at_some A P.length hl2
        obtain ⟨g', o', rfl, _, _, hcx⟩ := (HA.out.below HBL.out b1) _ _ (strV_get A P.length x hx)
        by_cases hxy : x = y
        · subst hxy
          have HS2 : Hid (Ef.sub A (B.take (k + 1)) 0 = P ++ [k]) := by show _ = _; rw [HSN.out, if_pos hx]
          clear hx
          go_wp2_with (first | (at_builtin; refine wpList_append_own _ rfl _ _ 42 rfl w.heap.size 3 i0 (.int .i64 0) 1 8 Try.underlying42 hi hz0 hz1 hz2 rfl (by decide) _ _ _ rfl (hown.alloc _) ⟨wr.heap.size, 0, none⟩ 1 1 [.int .i64 (k : Int)] rfl rfl (cell_one_new _ _ _) (one_cell_int _ _) ?c3 ?c4 ?c5 ?_))
          case c3 => unfold maxLen; omega
          case c4 => omega
          case c5 => have := HBL.out.size; simp; omega
          intro v' w2 hown' hgrow hnil'
          have hob := World.ownsRow.lt hown
          have hbel' : Below w.heap.size w w2 := (HBL.out.alloc HBL.out.size _).grown hgrow (by have := HBL.out.size; simp; omega) (fun k hk => by have := (hob k hk).1; omega)
          have HOW : Hid (w2.ownsRow w.heap.size 3 1 v' (P ++ [k]).length (inV (P ++ [k]))) := by
            rw [← inV_snoc, List.length_append]; exact hown'
          have HB2 := hide hbel'
          clear hown hown' hgrow hob hbel'
          go_wp2_with fail
          go_roundw
          case rel => exact ⟨k + 1, P ++ [k], by omega, by go_num, HS2.out.symm, HOW.out, HB2.out⟩
          case measure => (simp [intOf]; try omega)
        · have HS2 : Hid (Ef.sub A (B.take (k + 1)) 0 = P) := by
            show _ = _
            rw [HSN.out, hx, if_neg (fun h => hxy (Option.some.inj h)), List.append_nil]
          have hne : (x.toList == y.toList) = false := by simp [toList_eq_iff, hxy]
          have HOW := hide hown
          clear hx hxy hown
          go_wp2_with fail
          go_roundw
          case rel => exact ⟨k + 1, P, by omega, by go_num, HS2.out.symm, HOW.out, HBL.out⟩
          case measure => (simp [intOf]; try omega)
      · have HS2 : Hid (Ef.sub A (B.take (k + 1)) 0 = P) := by
          show _ = _
          rw [HSN.out, List.getElem?_eq_none (by omega), if_neg (by simp), List.append_nil]
        have HOW := hide hown
        clear hown
        go_wp2_with fail
        go_roundw
        case rel => exact ⟨k + 1, P, by omega, by go_num, HS2.out.symm, HOW.out, HBL.out⟩
        case measure => (simp [intOf]; try omega)
    · have HP2 : Hid (P = Ef.sub A B 0) := by
        have h := HP.out
        rw [List.take_of_length_le (by omega)] at h
        exact h
      clear hown
      go_wp2_with fail
      go_ret2
      refine ⟨a', cap', ?_, by rw [← HP2.out]; exact HCL.out, HBL.out⟩
      rw [← HP2.out]
      refine ret_pair ?_
      by_cases hpa : P.length = A.length
      · simp [hpa]
      · simp [hpa]; omega
end Go.Proofs.Qxb6601135a
