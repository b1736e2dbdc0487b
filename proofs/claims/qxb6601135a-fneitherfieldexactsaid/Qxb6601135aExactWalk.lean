/-
  The walk of FnEitherFieldExact: all of it.
-/
import Derived.Test.Qxb6601135aExact1
import Derived.Test.Qxb6601135aExact2
import Derived.Test.Qxb6601135aExact3
namespace Go.Proofs.Qxb6601135a
open Go.ChangeShapes Go.WideShapes Go.ChangeAt Go.RowKit
set_option linter.unusedVariables false

set_option maxHeartbeats 2000000 in
set_option maxRecDepth 100000 in
theorem exact_off_l (aA aL aW aB : Option Addr) (cA cL cW cB bit : Nat) (A B : List ByteArray) (L : List Bool) (W : List Nat) (w0 : World)
    (hA : CellsIn w0 0 w0.heap.size aA (strV A)) (hL : CellsIn w0 0 w0.heap.size aL (blV L)) (hW : CellsIn w0 0 w0.heap.size aW (wdV W)) (hB : CellsIn w0 0 w0.heap.size aB (strV B))
    (hb : bit < 18446744073709551616) (hwb : ∀ x ∈ W, x < 18446744073709551616) (hLi : aL.isNone = false) (hLn : L.length ≠ A.length) :
    Calls Try.prog 7 #[.slice aA A.length cA, .slice aL L.length cL, .slice aW W.length cW, .slice aB B.length cB, .int .u64 (bit : Int)] w0 fun e w' => e = .returned (.bool true) ∧ Below w0.heap.size w0 w' := by
  have HA := hide hA
  have HL := hide hL
  have HW := hide hW
  have HBB := hide hB
  have HWB := hide hwb
  have hLb : ((L.length : Int) != (A.length : Int)) = true := by simp; omega
  clear hLn
  clear hA hL hW hB hwb
  have nq33 := fun (wx : World) (a : Option Addr) (n c : Nat) => run_neq_slice_nil_any (P := Try.prog) wx 33 4 a n c 0 0 Try.underlying33
  have nq34 := fun (wx : World) (a : Option Addr) (n c : Nat) => run_neq_slice_nil_any (P := Try.prog) wx 34 35 a n c 0 0 Try.underlying34
  have eq32 := fun (wx : World) (a : Option Addr) (n c : Nat) => Lib.run_eql_slice_nil (P := Try.prog) wx 32 9 a n c 0 0 Try.underlying32
  have eq33 := fun (wx : World) (a : Option Addr) (n c : Nat) => Lib.run_eql_slice_nil (P := Try.prog) wx 33 4 a n c 0 0 Try.underlying33
  have eq34 := fun (wx : World) (a : Option Addr) (n c : Nat) => Lib.run_eql_slice_nil (P := Try.prog) wx 34 35 a n c 0 0 Try.underlying34
  go_enter Try.func7, Try.ntmps7
  go_wp2_with fail
  refine (F19 aA aL aW aB cA cL cW cB _ _ _ _ A B L.length W.length bit _ HA.out HBB.out).mono ?_
  rintro _ w' ⟨r, rfl, -, hw'⟩
  subst w'
  cases r with
  | false =>
    go_wp2_with fail
    go_ret
    exact ⟨rfl, Below.refl _ _⟩
  | true =>
  go_wp2_with fail
  refine (F20 aA aL aW aB cA cL cW cB _ _ _ _ A B L.length W.length _ HA.out HBB.out).mono ?_
  rintro _ w' ⟨r, rfl, hr, hw'⟩
  subst w'
  cases r with
  | true =>
    clear hr
    go_wp2_with fail
    go_ret
    exact ⟨rfl, Below.refl _ _⟩
  | false =>
  obtain ⟨q1, q2, q3, q4⟩ := hr rfl
  clear hr
  go_wp2_with fail
  go_ret
  exact ⟨rfl, Below.refl _ _⟩

set_option maxHeartbeats 2000000 in
set_option maxRecDepth 100000 in
theorem exact_off_w1 (aA aL aW aB : Option Addr) (cA cL cW cB bit : Nat) (A B : List ByteArray) (L : List Bool) (W : List Nat) (w0 : World)
    (hA : CellsIn w0 0 w0.heap.size aA (strV A)) (hL : CellsIn w0 0 w0.heap.size aL (blV L)) (hW : CellsIn w0 0 w0.heap.size aW (wdV W)) (hB : CellsIn w0 0 w0.heap.size aB (strV B))
    (hb : bit < 18446744073709551616) (hwb : ∀ x ∈ W, x < 18446744073709551616) (hLi : aL.isNone = true) (hWi : aW.isNone = false) (hWn : W.length ≠ A.length) :
    Calls Try.prog 7 #[.slice aA A.length cA, .slice aL L.length cL, .slice aW W.length cW, .slice aB B.length cB, .int .u64 (bit : Int)] w0 fun e w' => e = .returned (.bool true) ∧ Below w0.heap.size w0 w' := by
  have HA := hide hA
  have HL := hide hL
  have HW := hide hW
  have HBB := hide hB
  have HWB := hide hwb
  have hWb : ((W.length : Int) != (A.length : Int)) = true := by simp; omega
  clear hWn
  clear hA hL hW hB hwb
  have nq33 := fun (wx : World) (a : Option Addr) (n c : Nat) => run_neq_slice_nil_any (P := Try.prog) wx 33 4 a n c 0 0 Try.underlying33
  have nq34 := fun (wx : World) (a : Option Addr) (n c : Nat) => run_neq_slice_nil_any (P := Try.prog) wx 34 35 a n c 0 0 Try.underlying34
  have eq32 := fun (wx : World) (a : Option Addr) (n c : Nat) => Lib.run_eql_slice_nil (P := Try.prog) wx 32 9 a n c 0 0 Try.underlying32
  have eq33 := fun (wx : World) (a : Option Addr) (n c : Nat) => Lib.run_eql_slice_nil (P := Try.prog) wx 33 4 a n c 0 0 Try.underlying33
  have eq34 := fun (wx : World) (a : Option Addr) (n c : Nat) => Lib.run_eql_slice_nil (P := Try.prog) wx 34 35 a n c 0 0 Try.underlying34
  go_enter Try.func7, Try.ntmps7
  go_wp2_with fail
  refine (F19 aA aL aW aB cA cL cW cB _ _ _ _ A B L.length W.length bit _ HA.out HBB.out).mono ?_
  rintro _ w' ⟨r, rfl, -, hw'⟩
  subst w'
  cases r with
  | false =>
    go_wp2_with fail
    go_ret
    exact ⟨rfl, Below.refl _ _⟩
  | true =>
  go_wp2_with fail
  refine (F20 aA aL aW aB cA cL cW cB _ _ _ _ A B L.length W.length _ HA.out HBB.out).mono ?_
  rintro _ w' ⟨r, rfl, hr, hw'⟩
  subst w'
  cases r with
  | true =>
    clear hr
    go_wp2_with fail
    go_ret
    exact ⟨rfl, Below.refl _ _⟩
  | false =>
  obtain ⟨q1, q2, q3, q4⟩ := hr rfl
  clear hr
  go_wp2_with fail
  go_ret
  exact ⟨rfl, Below.refl _ _⟩

set_option maxHeartbeats 2000000 in
set_option maxRecDepth 100000 in
theorem exact_off_w2 (aA aL aW aB : Option Addr) (cA cL cW cB bit : Nat) (A B : List ByteArray) (L : List Bool) (W : List Nat) (w0 : World)
    (hA : CellsIn w0 0 w0.heap.size aA (strV A)) (hL : CellsIn w0 0 w0.heap.size aL (blV L)) (hW : CellsIn w0 0 w0.heap.size aW (wdV W)) (hB : CellsIn w0 0 w0.heap.size aB (strV B))
    (hb : bit < 18446744073709551616) (hwb : ∀ x ∈ W, x < 18446744073709551616) (hLi : aL.isNone = false) (hLe : L.length = A.length) (hWi : aW.isNone = false) (hWn : W.length ≠ A.length) :
    Calls Try.prog 7 #[.slice aA A.length cA, .slice aL L.length cL, .slice aW W.length cW, .slice aB B.length cB, .int .u64 (bit : Int)] w0 fun e w' => e = .returned (.bool true) ∧ Below w0.heap.size w0 w' := by
  have HA := hide hA
  have HL := hide hL
  have HW := hide hW
  have HBB := hide hB
  have HWB := hide hwb
  have hLb : ((L.length : Int) != (A.length : Int)) = false := by simp; omega
  clear hLe
  have hWb : ((W.length : Int) != (A.length : Int)) = true := by simp; omega
  clear hWn
  clear hA hL hW hB hwb
  have nq33 := fun (wx : World) (a : Option Addr) (n c : Nat) => run_neq_slice_nil_any (P := Try.prog) wx 33 4 a n c 0 0 Try.underlying33
  have nq34 := fun (wx : World) (a : Option Addr) (n c : Nat) => run_neq_slice_nil_any (P := Try.prog) wx 34 35 a n c 0 0 Try.underlying34
  have eq32 := fun (wx : World) (a : Option Addr) (n c : Nat) => Lib.run_eql_slice_nil (P := Try.prog) wx 32 9 a n c 0 0 Try.underlying32
  have eq33 := fun (wx : World) (a : Option Addr) (n c : Nat) => Lib.run_eql_slice_nil (P := Try.prog) wx 33 4 a n c 0 0 Try.underlying33
  have eq34 := fun (wx : World) (a : Option Addr) (n c : Nat) => Lib.run_eql_slice_nil (P := Try.prog) wx 34 35 a n c 0 0 Try.underlying34
  go_enter Try.func7, Try.ntmps7
  go_wp2_with fail
  refine (F19 aA aL aW aB cA cL cW cB _ _ _ _ A B L.length W.length bit _ HA.out HBB.out).mono ?_
  rintro _ w' ⟨r, rfl, -, hw'⟩
  subst w'
  cases r with
  | false =>
    go_wp2_with fail
    go_ret
    exact ⟨rfl, Below.refl _ _⟩
  | true =>
  go_wp2_with fail
  refine (F20 aA aL aW aB cA cL cW cB _ _ _ _ A B L.length W.length _ HA.out HBB.out).mono ?_
  rintro _ w' ⟨r, rfl, hr, hw'⟩
  subst w'
  cases r with
  | true =>
    clear hr
    go_wp2_with fail
    go_ret
    exact ⟨rfl, Below.refl _ _⟩
  | false =>
  obtain ⟨q1, q2, q3, q4⟩ := hr rfl
  clear hr
  go_wp2_with fail
  go_ret
  exact ⟨rfl, Below.refl _ _⟩

theorem exact_walk (aA aL aW aB : Option Addr) (cA cL cW cB bit : Nat) (A B : List ByteArray) (L : List Bool) (W : List Nat) (w0 : World)
    (hA : CellsIn w0 0 w0.heap.size aA (strV A)) (hL : CellsIn w0 0 w0.heap.size aL (blV L)) (hW : CellsIn w0 0 w0.heap.size aW (wdV W)) (hB : CellsIn w0 0 w0.heap.size aB (strV B))
    (hb : bit < 18446744073709551616) (hwb : ∀ x ∈ W, x < 18446744073709551616) :
    Calls Try.prog 7 #[.slice aA A.length cA, .slice aL L.length cL, .slice aW W.length cW, .slice aB B.length cB, .int .u64 (bit : Int)] w0 fun e w' => e = .returned (.bool true) ∧ Below w0.heap.size w0 w' := by
  cases hLi : aL.isNone with
  | true =>
    cases hWi : aW.isNone with
    | true =>
      by_cases hAB : A = B
      · exact exact_same_11 aA aL aW aB cA cL cW cB bit A B L W w0 hA hL hW hB hb hwb hLi hWi hAB
      by_cases hs : (Ef.sub A B 0).length = A.length
      · exact exact_sub_11 aA aL aW aB cA cL cW cB bit A B L W w0 hA hL hW hB hb hwb hLi hWi hAB hs
      · exact exact_cat_11 aA aL aW aB cA cL cW cB bit A B L W w0 hA hL hW hB hb hwb hLi hWi hAB hs
    | false =>
      by_cases hWe : W.length = A.length
      · by_cases hAB : A = B
        · exact exact_same_10 aA aL aW aB cA cL cW cB bit A B L W w0 hA hL hW hB hb hwb hLi hWi hWe hAB
        by_cases hs : (Ef.sub A B 0).length = A.length
        · exact exact_sub_10 aA aL aW aB cA cL cW cB bit A B L W w0 hA hL hW hB hb hwb hLi hWi hWe hAB hs
        · exact exact_cat_10 aA aL aW aB cA cL cW cB bit A B L W w0 hA hL hW hB hb hwb hLi hWi hWe hAB hs
      · exact exact_off_w1 aA aL aW aB cA cL cW cB bit A B L W w0 hA hL hW hB hb hwb hLi hWi hWe
  | false =>
    by_cases hLe : L.length = A.length
    · cases hWi : aW.isNone with
      | true =>
        by_cases hAB : A = B
        · exact exact_same_01 aA aL aW aB cA cL cW cB bit A B L W w0 hA hL hW hB hb hwb hLi hLe hWi hAB
        by_cases hs : (Ef.sub A B 0).length = A.length
        · exact exact_sub_01 aA aL aW aB cA cL cW cB bit A B L W w0 hA hL hW hB hb hwb hLi hLe hWi hAB hs
        · exact exact_cat_01 aA aL aW aB cA cL cW cB bit A B L W w0 hA hL hW hB hb hwb hLi hLe hWi hAB hs
      | false =>
        by_cases hWe : W.length = A.length
        · by_cases hAB : A = B
          · exact exact_same_00 aA aL aW aB cA cL cW cB bit A B L W w0 hA hL hW hB hb hwb hLi hLe hWi hWe hAB
          by_cases hs : (Ef.sub A B 0).length = A.length
          · exact exact_sub_00 aA aL aW aB cA cL cW cB bit A B L W w0 hA hL hW hB hb hwb hLi hLe hWi hWe hAB hs
          · exact exact_cat_00 aA aL aW aB cA cL cW cB bit A B L W w0 hA hL hW hB hb hwb hLi hLe hWi hWe hAB hs
        · exact exact_off_w2 aA aL aW aB cA cL cW cB bit A B L W w0 hA hL hW hB hb hwb hLi hLe hWi hWe
    · exact exact_off_l aA aL aW aB cA cL cW cB bit A B L W w0 hA hL hW hB hb hwb hLi hLe
end Go.Proofs.Qxb6601135a
