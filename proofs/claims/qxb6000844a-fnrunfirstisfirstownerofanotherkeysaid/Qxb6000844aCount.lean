/-
  zzBytes and zzStringsBytes: the size guards.
-/
import Derived.Test.Qxb6000844aMem
namespace Go.Proofs.Qxb6000844a
open Go.ChangeShapes Go.WideShapes Go.ChangeAt Go.RowKit
set_option linter.unusedVariables false

/-- A bool of which p holds; the world as it was. -/
def BoolOf (e : Ending) (w w' : World) (p : Bool → Prop) : Prop := ∃ r : Bool, e = .returned (.bool r) ∧ p r ∧ w' = w
theorem boolOf {w : World} {e : Ending} {p : Bool → Prop} {w' : World} (r : Bool) (he : e = .returned (.bool r)) (h : p r) (hw : w' = w) : BoolOf e w w' p := ⟨r, he, h, hw⟩
def NatOf (e : Ending) (w w' : World) (m : Nat) : Prop := ∃ T : Nat, e = .returned (.int .i64 (T : Int)) ∧ T ≤ m ∧ w' = w
def Small (K : List ByteArray) : Prop := ∀ x ∈ K, x.size ≤ 1048576
theorem small_take {K : List ByteArray} {k : Nat} {x : ByteArray} (h : Small (K.take k)) (hx : K[k]? = some x) (hs : x.size ≤ 1048576) : Small (K.take (k + 1)) := by
  intro y hy
  rw [take_at K k x hx] at hy
  rcases List.mem_append.1 hy with h' | h'
  · exact h y h'
  · rw [List.mem_singleton.1 h']; exact hs

set_option maxHeartbeats 1000000 in
theorem F12 (aK aO : Option Addr) (cK cO l1 h1 nO : Nat) (K : List ByteArray) (key : ByteArray) (w : World) (hK : CellsIn w l1 h1 aK (strV K)) :
    Calls Try.prog 12 #[.slice aK K.length cK, .slice aO nO cO, .string key] w fun e w' => BoolOf e w w' (fun r => r = true → Small K) := by
  have HK := hide hK
  clear hK
  by_cases q1 : 1048576 < K.length
  · go_enter Try.func12, Try.ntmps12
    go_wp2
    go_ret
    exact boolOf false rfl (fun h => by (cases h)) rfl
  go_enter Try.func12, Try.ntmps12
  go_wp2_with fail
  go_loop [7, 8] (fun n i => ∃ k T : Nat, k ≤ K.length ∧ i = .int .i64 k ∧ n = .int .i64 T ∧ T ≤ 1048576 ∧ Small (K.take k)) (fun _ i => K.length - (intOf i).toNat)
  case atStart => exact ⟨0, K.length, Nat.zero_le _, rfl, ival (by omega), by omega, fun x hx => by cases hx⟩
  case round =>
    obtain ⟨k, T, hk, rfl, rfl, hT, hsm⟩ := hrel
    have HSM := hide hsm
    clear hsm
    by_cases hlt : k < K.length
    · obtain ⟨x, hx⟩ := at_some K k hlt
      obtain ⟨g, o, hae, _, _, hc⟩ := HK.out k _ (strV_get K k x hx)
      have HX := hide hx
      clear hx
      subst hae
      by_cases hx1 : 1048576 < x.size
      · go_wp2
        go_ret
        exact boolOf false rfl (fun h => by (cases h)) rfl
      by_cases hx2 : 1048576 < T + x.size
      · go_wp2
        go_ret
        exact boolOf false rfl (fun h => by (cases h)) rfl
      go_wp2
      go_round
      case rel => exact ⟨k + 1, T + x.size, by omega, by go_num, by go_num, by omega, small_take HSM.out HX.out (by omega)⟩
      case measure => (simp [intOf]; try omega)
    · have HSA : Hid (Small K) := by have h := HSM.out; rw [List.take_of_length_le (by omega)] at h; exact h
      by_cases q2 : 1048576 < nO
      · go_wp2_with fail
        go_ret
        exact boolOf false rfl (fun h => by (cases h)) rfl
      by_cases q3 : 1048576 < T + nO
      · go_wp2_with fail
        go_ret
        exact boolOf false rfl (fun h => by (cases h)) rfl
      by_cases q4 : 1048576 < key.size
      · go_wp2_with fail
        go_ret
        exact boolOf false rfl (fun h => by (cases h)) rfl
      by_cases q5 : 1048576 < T + nO + key.size
      · go_wp2_with fail
        go_ret
        exact boolOf false rfl (fun h => by (cases h)) rfl
      go_wp2_with fail
      go_ret
      exact boolOf true rfl (fun _ => HSA.out) rfl

set_option maxHeartbeats 1000000 in
theorem F13 (aK : Option Addr) (cK l1 h1 : Nat) (K : List ByteArray) (w : World) (hK : CellsIn w l1 h1 aK (strV K)) (hs : Small K) (hn : K.length ≤ 131072) :
    Calls Try.prog 13 #[.slice aK K.length cK] w fun e w' => NatOf e w w' 1048577 := by
  have HK := hide hK
  have HSM := hide hs
  clear hK hs
  go_enter Try.func13, Try.ntmps13
  go_wp2_with fail
  go_loop [3, 4] (fun n i => ∃ k T : Nat, k ≤ K.length ∧ i = .int .i64 k ∧ n = .int .i64 T ∧ T ≤ 1048576) (fun _ i => K.length - (intOf i).toNat)
  case atStart => exact ⟨0, 8 * K.length, Nat.zero_le _, rfl, ival (by omega), by omega⟩
  case round =>
    obtain ⟨k, T, hk, rfl, rfl, hT⟩ := hrel
    by_cases hlt : k < K.length
    · obtain ⟨x, hx⟩ := at_some K k hlt
      obtain ⟨g, o, hae, _, _, hc⟩ := HK.out k _ (strV_get K k x hx)
      have hx1 : x.size ≤ 1048576 := HSM.out x (List.mem_of_getElem? hx)
      clear hx
      subst hae
      by_cases hx2 : 1048576 < T + x.size
      · go_wp2
        go_ret
        exact ⟨1048577, rfl, by omega, rfl⟩
      go_wp2
      go_round
      case rel => exact ⟨k + 1, T + x.size, by omega, by go_num, by go_num, by omega⟩
      case measure => (simp [intOf]; try omega)
    · go_wp2_with fail
      go_ret
      exact ⟨T, rfl, by omega, rfl⟩
end Go.Proofs.Qxb6000844a
