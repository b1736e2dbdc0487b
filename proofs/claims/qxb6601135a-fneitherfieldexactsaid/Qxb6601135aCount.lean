/-
  efFalses, efOr, efTooBig and the two bounds on total length: what they answer.
-/
import Derived.Test.Qxb6601135aClone
namespace Go.Proofs.Qxb6601135a
open Go.ChangeShapes Go.WideShapes Go.ChangeAt Go.RowKit
set_option linter.unusedVariables false

/-- It answers a bool of which p holds; the world stands. -/
def BoolOf (e : Ending) (w w' : World) (p : Bool → Prop) : Prop := ∃ r, e = .returned (.bool r) ∧ p r ∧ w' = w
theorem boolOf {e : Ending} {w w' : World} {p : Bool → Prop} (r : Bool) (h : e = .returned (.bool r)) (hp : p r) (hw : w' = w) : BoolOf e w w' p := ⟨r, h, hp, hw⟩
theorem ret_int {k : IntKind} {a b : Int} (h : a = b) : Ending.returned (.int k a) = .returned (.int k b) := by rw [h]
theorem falses_le (l : List Bool) : Ef.falses l ≤ l.length := List.length_filter_le _ _

set_option maxHeartbeats 400000 in
theorem F30 (a : Option Addr) (c lo hi : Nat) (X : List Bool) (w : World) (hX : CellsIn w lo hi a (blV X)) (n1 : X.length ≤ 200000) :
    Calls Try.prog 30 #[.slice a X.length c] w fun e w' => e = .returned (.int .i64 (Ef.falses X : Int)) ∧ w' = w := by
  have HX := hide hX
  clear hX
  go_enter Try.func30, Try.ntmps30
  go_wp2
  go_loop [3, 4] (fun n i => ∃ k m : Nat, k ≤ X.length ∧ i = .int .i64 k ∧ n = .int .i64 m ∧ m = Ef.falses (X.take k)) (fun _ i => X.length - (intOf i).toNat)
  case atStart => exact ⟨0, 0, Nat.zero_le _, rfl, rfl, rfl⟩
  case round =>
    obtain ⟨k, m, hk, rfl, rfl, hm⟩ := hrel
    have hmk : m ≤ k := by rw [hm]; exact Nat.le_trans (falses_le _) (by rw [List.length_take]; omega)
    have HM := hide hm
    clear hm
    by_cases hlt : k < X.length
    · obtain ⟨x, hx⟩ := at_some X k hlt
      obtain ⟨g, o, rfl, _, _, hc⟩ := HX.out k _ (blV_get X k x hx)
      have HS : Hid (Ef.falses (X.take (k + 1)) = m + (if x = true then 0 else 1)) := by
        show _ = _
        rw [take_at X k x hx, Ef.falses_snoc, HM.out]
      clear hx
      cases x with
      | true =>
        go_wp2
        go_round
        case rel => exact ⟨k + 1, m, by omega, by go_num, rfl, by rw [HS.out]; rfl⟩
        case measure => (simp [intOf]; try omega)
      | false =>
        go_wp2
        go_round
        case rel => exact ⟨k + 1, m + 1, by omega, by go_num, by go_num, by rw [HS.out]; rfl⟩
        case measure => (simp [intOf]; try omega)
    · go_wp2
      go_ret
      have h := HM.out
      rw [List.take_of_length_le (by omega)] at h
      exact ⟨ret_int (by rw [h]), rfl⟩

theorem or_lt (l : List Nat) (h : ∀ x ∈ l, x < 18446744073709551616) : Ef.orAll l < 18446744073709551616 := by
  suffices ∀ (l : List Nat) (o : Nat), o < 2 ^ 64 → (∀ x ∈ l, x < 2 ^ 64) → l.foldl (fun o x => o ||| x) o < 2 ^ 64 from this l 0 (by decide) h
  intro l
  induction l with
  | nil => intro o ho _; exact ho
  | cons y t ih => intro o ho h; exact ih _ (Nat.or_lt_two_pow ho (h y (by simp))) (fun x hx => h x (by simp [hx]))

set_option maxHeartbeats 400000 in
theorem F31 (a : Option Addr) (c lo hi : Nat) (X : List Nat) (w : World) (hX : CellsIn w lo hi a (wdV X)) (n1 : X.length ≤ 200000) (hw : ∀ x ∈ X, x < 18446744073709551616) :
    Calls Try.prog 31 #[.slice a X.length c] w fun e w' => e = .returned (.int .u64 (Ef.orAll X : Int)) ∧ w' = w := by
  have HX := hide hX
  have HW := hide hw
  clear hX hw
  go_enter Try.func31, Try.ntmps31
  go_wp2
  go_loop [3, 4] (fun n i => ∃ k m : Nat, k ≤ X.length ∧ i = .int .i64 k ∧ n = .int .u64 (m : Int) ∧ m = Ef.orAll (X.take k)) (fun _ i => X.length - (intOf i).toNat)
  case atStart => exact ⟨0, 0, Nat.zero_le _, rfl, rfl, rfl⟩
  case round =>
    obtain ⟨k, m, hk, rfl, rfl, hm⟩ := hrel
    have HMB : Hid (m < 18446744073709551616) := by rw [hm]; exact or_lt _ (fun x hx => HW.out x (List.mem_of_mem_take hx))
    have HM := hide hm
    clear hm
    by_cases hlt : k < X.length
    · obtain ⟨x, hx⟩ := at_some X k hlt
      obtain ⟨g, o, rfl, _, _, hc⟩ := HX.out k _ (wdV_get X k x hx)
      have HS : Hid (Ef.orAll (X.take (k + 1)) = m ||| x) := by
        show _ = _
        rw [take_at X k x hx, Ef.orAll_snoc, HM.out]
      have HBX : Hid (bits .or .u64 (m : Int) (x : Int) = ((m ||| x : Nat) : Int)) := u64_or_nat m x HMB.out (HW.out x (List.mem_of_getElem? hx))
      clear hx
      go_wp2
      go_round
      case rel => exact ⟨k + 1, m ||| x, by omega, by go_num, ival HBX.out, by rw [HS.out]⟩
      case measure => (simp [intOf]; try omega)
    · go_wp2
      go_ret
      have h := HM.out
      rw [List.take_of_length_le (by omega)] at h
      exact ⟨ret_int (by rw [h]), rfl⟩

set_option maxHeartbeats 1000000 in
theorem F20 (aA aL aW aB : Option Addr) (cA cL cW cB l1 h1 l2 h2 : Nat) (A B : List ByteArray) (nL nW : Nat) (w : World) (hA : CellsIn w l1 h1 aA (strV A)) (hB : CellsIn w l2 h2 aB (strV B)) :
    Calls Try.prog 20 #[.slice aA A.length cA, .slice aL nL cL, .slice aW nW cW, .slice aB B.length cB] w fun e w' => BoolOf e w w' (fun r => r = false → A.length ≤ 65536 ∧ nL ≤ 65536 ∧ nW ≤ 65536 ∧ B.length ≤ 65536) := by
  have HA := hide hA
  have HB := hide hB
  clear hA hB
  by_cases q1 : 65536 < A.length
  · go_enter Try.func20, Try.ntmps20
    go_wp2
    go_ret
    exact boolOf true rfl (fun h => by (cases h)) rfl
  by_cases q2 : 65536 < nL
  · go_enter Try.func20, Try.ntmps20
    go_wp2
    go_ret
    exact boolOf true rfl (fun h => by (cases h)) rfl
  by_cases q3 : 65536 < nW
  · go_enter Try.func20, Try.ntmps20
    go_wp2
    go_ret
    exact boolOf true rfl (fun h => by (cases h)) rfl
  by_cases q4 : 65536 < B.length
  · go_enter Try.func20, Try.ntmps20
    go_wp2
    go_ret
    exact boolOf true rfl (fun h => by (cases h)) rfl
  by_cases q5 : 1048576 < 16 * A.length + 16 * B.length + nL + 8 * nW
  · go_enter Try.func20, Try.ntmps20
    go_wp2
    go_ret
    exact boolOf true rfl (fun h => by (cases h)) rfl
  go_enter Try.func20, Try.ntmps20
  go_wp2_with fail
  go_loop [9, 10] (fun n i => ∃ k T : Nat, k ≤ A.length ∧ i = .int .i64 k ∧ n = .int .i64 T ∧ T ≤ 1048576) (fun _ i => A.length - (intOf i).toNat)
  case atStart => exact ⟨0, 16 * A.length + 16 * B.length + nL + 8 * nW, Nat.zero_le _, rfl, ival (by omega), by omega⟩
  case round =>
    obtain ⟨k, T, hk, rfl, rfl, hT⟩ := hrel
    by_cases hlt : k < A.length
    · obtain ⟨x, hx⟩ := at_some A k hlt
      obtain ⟨g, o, hae, _, _, hc⟩ := HA.out k _ (strV_get A k x hx)
      clear hx
      subst hae
      by_cases hx1 : 1048576 < x.size
      · go_wp2
        go_ret
        exact boolOf true rfl (fun h => by (cases h)) rfl
      by_cases hx2 : 1048576 < T + x.size
      · go_wp2
        go_ret
        exact boolOf true rfl (fun h => by (cases h)) rfl
      go_wp2
      go_round
      case rel => exact ⟨k + 1, T + x.size, by omega, by go_num, by go_num, by omega⟩
      case measure => (simp [intOf]; try omega)
    · go_wp2_with fail
      go_loop [9, 11] (fun n i => ∃ k T : Nat, k ≤ B.length ∧ i = .int .i64 k ∧ n = .int .i64 T ∧ T ≤ 1048576) (fun _ i => B.length - (intOf i).toNat)
      case atStart => exact ⟨0, T, Nat.zero_le _, rfl, ival (by omega), by omega⟩
      case round =>
        obtain ⟨k, T, hk, rfl, rfl, hT⟩ := hrel
        by_cases hlt : k < B.length
        · obtain ⟨x, hx⟩ := at_some B k hlt
          obtain ⟨g, o, hae, _, _, hc⟩ := HB.out k _ (strV_get B k x hx)
          clear hx
          subst hae
          by_cases hx1 : 1048576 < x.size
          · go_wp2
            go_ret
            exact boolOf true rfl (fun h => by (cases h)) rfl
          by_cases hx2 : 1048576 < T + x.size
          · go_wp2
            go_ret
            exact boolOf true rfl (fun h => by (cases h)) rfl
          go_wp2
          go_round
          case rel => exact ⟨k + 1, T + x.size, by omega, by go_num, by go_num, by omega⟩
          case measure => (simp [intOf]; try omega)
        · go_wp2_with fail
          go_ret
          exact boolOf false rfl (fun _ => ⟨by omega, by omega, by omega, by omega⟩) rfl

set_option maxHeartbeats 1000000 in
theorem F19 (aA aL aW aB : Option Addr) (cA cL cW cB l1 h1 l2 h2 : Nat) (A B : List ByteArray) (nL nW bit : Nat) (w : World) (hA : CellsIn w l1 h1 aA (strV A)) (hB : CellsIn w l2 h2 aB (strV B)) :
    Calls Try.prog 19 #[.slice aA A.length cA, .slice aL nL cL, .slice aW nW cW, .slice aB B.length cB, .int .u64 (bit : Int)] w fun e w' => BoolOf e w w' (fun _ => True) := by
  have HA := hide hA
  have HB := hide hB
  clear hA hB
  by_cases q1 : 1048576 < A.length
  · go_enter Try.func19, Try.ntmps19
    go_wp2
    go_ret
    exact boolOf false rfl trivial rfl
  go_enter Try.func19, Try.ntmps19
  go_wp2_with fail
  go_loop [11, 12] (fun n i => ∃ k T : Nat, k ≤ A.length ∧ i = .int .i64 k ∧ n = .int .i64 T ∧ T ≤ 1048576) (fun _ i => A.length - (intOf i).toNat)
  case atStart => exact ⟨0, A.length, Nat.zero_le _, rfl, ival (by omega), by omega⟩
  case round =>
    obtain ⟨k, T, hk, rfl, rfl, hT⟩ := hrel
    by_cases hlt : k < A.length
    · obtain ⟨x, hx⟩ := at_some A k hlt
      obtain ⟨g, o, hae, _, _, hc⟩ := HA.out k _ (strV_get A k x hx)
      clear hx
      subst hae
      by_cases hx1 : 1048576 < x.size
      · go_wp2
        go_ret
        exact boolOf false rfl trivial rfl
      by_cases hx2 : 1048576 < T + x.size
      · go_wp2
        go_ret
        exact boolOf false rfl trivial rfl
      go_wp2
      go_round
      case rel => exact ⟨k + 1, T + x.size, by omega, by go_num, by go_num, by omega⟩
      case measure => (simp [intOf]; try omega)
    · by_cases r1 : 1048576 < nL
      · go_wp2
        go_ret
        exact boolOf false rfl trivial rfl
      by_cases r2 : 1048576 < T + nL
      · go_wp2
        go_ret
        exact boolOf false rfl trivial rfl
      by_cases r3 : 1048576 < nW
      · go_wp2
        go_ret
        exact boolOf false rfl trivial rfl
      by_cases r4 : 1048576 < T + nL + nW
      · go_wp2
        go_ret
        exact boolOf false rfl trivial rfl
      by_cases r5 : 1048576 < B.length
      · go_wp2
        go_ret
        exact boolOf false rfl trivial rfl
      by_cases r6 : 1048576 < T + nL + nW + B.length
      · go_wp2
        go_ret
        exact boolOf false rfl trivial rfl
      go_wp2_with fail
      go_loop [11, 13] (fun n i => ∃ k T : Nat, k ≤ B.length ∧ i = .int .i64 k ∧ n = .int .i64 T ∧ T ≤ 1048576) (fun _ i => B.length - (intOf i).toNat)
      case atStart => exact ⟨0, T + nL + nW + B.length, Nat.zero_le _, rfl, ival (by omega), by omega⟩
      case round =>
        obtain ⟨k, T, hk, rfl, rfl, hT⟩ := hrel
        by_cases hlt : k < B.length
        · obtain ⟨x, hx⟩ := at_some B k hlt
          obtain ⟨g, o, hae, _, _, hc⟩ := HB.out k _ (strV_get B k x hx)
          clear hx
          subst hae
          by_cases hx1 : 1048576 < x.size
          · go_wp2
            go_ret
            exact boolOf false rfl trivial rfl
          by_cases hx2 : 1048576 < T + x.size
          · go_wp2
            go_ret
            exact boolOf false rfl trivial rfl
          go_wp2
          go_round
          case rel => exact ⟨k + 1, T + x.size, by omega, by go_num, by go_num, by omega⟩
          case measure => (simp [intOf]; try omega)
        · go_wp2_with fail
          go_ret
          exact boolOf true rfl trivial rfl

set_option maxHeartbeats 1000000 in
theorem F29 (aA aL aW aB : Option Addr) (cA cL cW cB l1 h1 l2 h2 : Nat) (A B : List ByteArray) (nL nW bit : Nat) (w : World) (hA : CellsIn w l1 h1 aA (strV A)) (hB : CellsIn w l2 h2 aB (strV B)) :
    Calls Try.prog 29 #[.slice aA A.length cA, .slice aL nL cL, .slice aW nW cW, .slice aB B.length cB, .int .u64 (bit : Int)] w fun e w' => BoolOf e w w' (fun _ => True) := by
  have HA := hide hA
  have HB := hide hB
  clear hA hB
  by_cases q1 : 1048576 < A.length
  · go_enter Try.func29, Try.ntmps29
    go_wp2
    go_ret
    exact boolOf false rfl trivial rfl
  go_enter Try.func29, Try.ntmps29
  go_wp2_with fail
  go_loop [11, 12] (fun n i => ∃ k T : Nat, k ≤ A.length ∧ i = .int .i64 k ∧ n = .int .i64 T ∧ T ≤ 1048576) (fun _ i => A.length - (intOf i).toNat)
  case atStart => exact ⟨0, A.length, Nat.zero_le _, rfl, ival (by omega), by omega⟩
  case round =>
    obtain ⟨k, T, hk, rfl, rfl, hT⟩ := hrel
    by_cases hlt : k < A.length
    · obtain ⟨x, hx⟩ := at_some A k hlt
      obtain ⟨g, o, hae, _, _, hc⟩ := HA.out k _ (strV_get A k x hx)
      clear hx
      subst hae
      by_cases hx1 : 1048576 < x.size
      · go_wp2
        go_ret
        exact boolOf false rfl trivial rfl
      by_cases hx2 : 1048576 < T + x.size
      · go_wp2
        go_ret
        exact boolOf false rfl trivial rfl
      go_wp2
      go_round
      case rel => exact ⟨k + 1, T + x.size, by omega, by go_num, by go_num, by omega⟩
      case measure => (simp [intOf]; try omega)
    · by_cases r1 : 1048576 < nL
      · go_wp2
        go_ret
        exact boolOf false rfl trivial rfl
      by_cases r2 : 1048576 < T + nL
      · go_wp2
        go_ret
        exact boolOf false rfl trivial rfl
      by_cases r3 : 1048576 < nW
      · go_wp2
        go_ret
        exact boolOf false rfl trivial rfl
      by_cases r4 : 1048576 < T + nL + nW
      · go_wp2
        go_ret
        exact boolOf false rfl trivial rfl
      by_cases r5 : 1048576 < B.length
      · go_wp2
        go_ret
        exact boolOf false rfl trivial rfl
      by_cases r6 : 1048576 < T + nL + nW + B.length
      · go_wp2
        go_ret
        exact boolOf false rfl trivial rfl
      go_wp2_with fail
      go_loop [11, 13] (fun n i => ∃ k T : Nat, k ≤ B.length ∧ i = .int .i64 k ∧ n = .int .i64 T ∧ T ≤ 1048576) (fun _ i => B.length - (intOf i).toNat)
      case atStart => exact ⟨0, T + nL + nW + B.length, Nat.zero_le _, rfl, ival (by omega), by omega⟩
      case round =>
        obtain ⟨k, T, hk, rfl, rfl, hT⟩ := hrel
        by_cases hlt : k < B.length
        · obtain ⟨x, hx⟩ := at_some B k hlt
          obtain ⟨g, o, hae, _, _, hc⟩ := HB.out k _ (strV_get B k x hx)
          clear hx
          subst hae
          by_cases hx1 : 1048576 < x.size
          · go_wp2
            go_ret
            exact boolOf false rfl trivial rfl
          by_cases hx2 : 1048576 < T + x.size
          · go_wp2
            go_ret
            exact boolOf false rfl trivial rfl
          go_wp2
          go_round
          case rel => exact ⟨k + 1, T + x.size, by omega, by go_num, by go_num, by omega⟩
          case measure => (simp [intOf]; try omega)
        · go_wp2_with fail
          go_ret
          exact boolOf true rfl trivial rfl
end Go.Proofs.Qxb6601135a
