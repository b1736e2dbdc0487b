/-
  The walk of FnRunFirstIsFirstOwnerOfAnotherKey.
-/
import Derived.Test.Qxb6000844aFirst
import Derived.Test.Qxb6000844aClone
import Derived.Test.Qxb6000844aCount
namespace Go.Proofs.Qxb6000844a
open Go.ChangeShapes Go.WideShapes Go.ChangeAt Go.RowKit
set_option linter.unusedVariables false

theorem F16 (a1 a2 : Option Addr) (n1 c1 n2 c2 : Nat) (w : World) :
    Calls Try.prog 16 #[.slice a1 n1 c1, .slice a2 n2 c2] w fun e w' => e = .returned (.pointer (some ⟨w.heap.size, 0, none⟩)) ∧ RowV w' w.heap.size 39 [.slice a1 n1 c1, .slice a2 n2 c2, .slice none 0 0] ∧ Below w.heap.size w w' := by
  go_enter Try.func16, Try.ntmps16
  go_wp2_with fail
  go_ret
  exact ⟨rfl, RowV.fresh w 39 _, (Below.refl _ _).alloc (Nat.le_refl _) _⟩

theorem F17 (aK aO : Option Addr) (gR cK cO l1 h1 l2 h2 : Nat) (K : List ByteArray) (O : List Int) (key : ByteArray) (w : World)
    (hK : CellsIn w l1 h1 aK (strV K)) (hO : CellsIn w l2 h2 aO (izV O)) (b1 : h1 ≤ gR) (b2 : h2 ≤ gR)
    (hR : RowV w gR 39 [.slice aK K.length cK, .slice aO O.length cO, .slice none 0 0]) (n1 : K.length ≤ 131072) (n2 : O.length ≤ 131072) (hn : K.length ≤ O.length) :
    Calls Try.prog 17 #[.pointer (some ⟨gR, 0, none⟩), .string key] w fun e w' => e = .returned (.int .i64 (Rf.ans K O key)) ∧ Below gR w w' := by
  have HK := hide hK
  have HO := hide hO
  have HR := hide hR
  clear hK hO hR
  go_enter Try.func17, Try.ntmps17
  go_wp2_with fail
  refine (F20 aK aO gR cK cO l1 h1 l2 h2 K O key w HK.out HO.out b1 b2 HR.out n1 n2 hn).mono ?_
  rintro _ w' ⟨rfl, hb⟩
  have HB := hide hb
  clear hb
  go_wp2_with fail
  go_ret
  exact ⟨rfl, HB.out⟩

theorem clone_cells {w w' : World} {a' : Option Addr} {E : TypeId} {xs : List Value} (hr : ∀ ad, a' = some ad → ad = ⟨w.heap.size, 0, none⟩ ∧ RowV w' w.heap.size E xs) (h0 : a' = none → xs = []) : CellsIn w' w.heap.size w'.heap.size a' xs := by
  cases a' with
  | none => rw [h0 rfl]; exact CellsIn.nil _ _ _ _
  | some ad =>
    obtain ⟨rfl, hrow⟩ := hr ad rfl
    exact hrow.cellsAll.wide (Nat.le_refl _) hrow.lt
theorem none_of {w : World} {lo hi : Nat} {a a' : Option Addr} {xs : List Value} (h : CellsIn w lo hi a xs) (hn : a' = none ↔ a = none) : a' = none → xs = [] := fun e => by
  have := hn.1 e
  subst this
  exact nil_of_none h

set_option maxHeartbeats 1000000 in
set_option maxRecDepth 100000 in
theorem run_walk (aK aO : Option Addr) (cK cO : Nat) (K : List ByteArray) (O : List Int) (key : ByteArray) (w0 : World)
    (hK : CellsIn w0 0 w0.heap.size aK (strV K)) (hO : CellsIn w0 0 w0.heap.size aO (izV O)) :
    Calls Try.prog 6 #[.slice aK K.length cK, .slice aO O.length cO, .string key] w0 fun e w' => e = .returned (.bool true) ∧ Below w0.heap.size w0 w' := by
  have HK := hide hK
  have HO := hide hO
  clear hK hO
  go_enter Try.func6, Try.ntmps6
  go_wp2_with fail
  refine (F12 aK aO cK cO _ _ O.length K key _ HK.out).mono ?_
  rintro _ w' ⟨r, rfl, hr, hw'⟩
  subst w'
  cases r with
  | false =>
    clear hr
    go_wp2_with fail
    go_ret
    exact ⟨rfl, Below.refl _ _⟩
  | true =>
  have HSM := hide (hr rfl)
  clear hr
  by_cases q1 : 1048576 < key.size
  · go_wp2_with fail
    go_ret
    exact ⟨rfl, Below.refl _ _⟩
  by_cases q2 : 131072 < K.length
  · go_wp2_with fail
    go_ret
    exact ⟨rfl, Below.refl _ _⟩
  by_cases q3 : 131072 < O.length
  · go_wp2_with fail
    go_ret
    exact ⟨rfl, Below.refl _ _⟩
  go_wp2_with fail
  refine (F13 aK cK _ _ K _ HK.out HSM.out (by omega)).mono ?_
  rintro _ w' ⟨T, rfl, hT, hw'⟩
  subst w'
  by_cases q4 : 1048576 < T + 8 * O.length + key.size
  · go_wp2_with fail
    go_ret
    exact ⟨rfl, Below.refl _ _⟩
  by_cases q5 : O.length < K.length
  · go_wp2_with fail
    go_ret
    exact ⟨rfl, Below.refl _ _⟩
  go_wp2_with fail
  refine (F14 aK cK _ _ K _ HK.out (Nat.le_refl _) (by omega)).mono ?_
  rintro _ w1 ⟨a1, rfl, hn, hr, hb⟩
  have HC1 : Hid (CellsIn w1 w0.heap.size w1.heap.size a1 (strV K)) := clone_cells hr (none_of HK.out hn)
  have HB1 := hide hb
  have s1 := hb.size
  clear hn hr hb
  go_wp2_with fail
  refine (F15 aO cO _ _ O _ (HO.out.below HB1.out (Nat.le_refl _)) (by omega) (by omega)).mono ?_
  rintro _ w2 ⟨a2, rfl, hn, hr, hb⟩
  have HC2 : Hid (CellsIn w2 w1.heap.size w2.heap.size a2 (izV O)) := clone_cells hr (none_of (HO.out.below HB1.out (Nat.le_refl _)) hn)
  have HB2 := hide hb
  have s2 := hb.size
  clear hn hr hb
  go_wp2_with fail
  refine (F16 a1 a2 _ _ _ _ w2).mono ?_
  rintro _ w3 ⟨rfl, hrow, hb⟩
  have HR := hide hrow
  have HB3 := hide hb
  have s3 := hb.size
  clear hrow hb
  go_wp2_with fail
  refine (F17 a1 a2 w2.heap.size _ _ _ _ _ _ K O key w3 (HC1.out.below (below_trans HB2.out HB3.out) (Nat.le_refl _)) (HC2.out.below HB3.out (Nat.le_refl _)) (by omega) (by omega) HR.out (by omega) (by omega) (by omega)).mono ?_
  rintro _ w4 ⟨rfl, hb⟩
  have HB4 := hide hb
  have HC14 := hide ((HC1.out.below (below_trans HB2.out HB3.out) (Nat.le_refl _)).below hb (by omega))
  have HC24 := hide ((HC2.out.below HB3.out (Nat.le_refl _)).below hb (by omega))
  have HFIN := hide ((below_trans HB1.out (below_trans HB2.out HB3.out)).trans (hb.mono (by omega)))
  clear hb HC1 HC2 HR HB1 HB2 HB3 HB4
  obtain ⟨A, hA⟩ : ∃ A, A = Rf.ans K O key := ⟨_, rfl⟩
  rw [← hA]
  have HA := hide hA
  clear hA
  go_wp2_with fail
  go_loop [9, 10] (fun wv jv => ∃ k : Nat, k ≤ K.length ∧ jv = .int .i64 k ∧ wv = .int .i64 (-1) ∧ ∀ (i : Nat) (y : ByteArray), i < k → K[i]? = some y → y = key) (fun _ jv => K.length - (intOf jv).toNat)
  case atStart => exact ⟨0, Nat.zero_le _, rfl, rfl, fun i y hi _ => by omega⟩
  case round =>
    obtain ⟨k, hk, rfl, rfl, hall⟩ := hrel
    have HALL := hide hall
    clear hall
    by_cases hlt : k < K.length
    · obtain ⟨x, hx⟩ := at_some K k hlt
      obtain ⟨g, o, rfl, _, _, hcx⟩ := HC14.out k _ (strV_get K k x hx)
      by_cases hxk : x = key
      · have HNX : Hid (∀ (i : Nat) (y : ByteArray), i < k + 1 → K[i]? = some y → y = key) := by
          intro i y hi hy
          by_cases e : i = k
          · subst e; rw [hx] at hy; cases hy; exact hxk
          · exact HALL.out i y (by omega) hy
        clear hx
        subst hxk
        go_wp2_with fail
        go_round
        case rel => exact ⟨k + 1, by omega, by go_num, rfl, HNX.out⟩
        case measure => (simp [intOf]; try omega)
      · have hne : (x.toList == key.toList) = false := by simp [toList_eq_iff, hxk]
        have hat : Rf.at_ K key = k := Rf.at_hit K key k x hx hxk HALL.out
        obtain ⟨v, hv⟩ := at_some O k (by omega)
        obtain ⟨go, oo, rfl, _, _, hco⟩ := HC24.out k _ (izV_get O k v hv)
        have hkO : (k : Int) < (O.length : Int) := by omega
        have HV : Hid (A = v) := by
          show _ = _
          rw [HA.out]; unfold Rf.ans; rw [hat, if_pos hlt, List.getD_eq_getElem?_getD, hv]; rfl
        clear hx hv hat hxk
        go_wp2_with fail
        go_ret
        exact ⟨ret_bool (by rw [HV.out]; simp), HFIN.out⟩
    · have HV : Hid (A = -1) := by
        have hat : Rf.at_ K key = K.length := Rf.at_none K key (fun i y hy => HALL.out i y (by
          rcases Nat.lt_or_ge i K.length with h' | h'
          · omega
          · rw [List.getElem?_eq_none h'] at hy; cases hy) hy)
        show _ = _
        rw [HA.out]; unfold Rf.ans; rw [hat, if_neg (Nat.lt_irrefl _)]
      go_wp2_with fail
      go_ret
      exact ⟨ret_bool (by rw [HV.out]; simp), HFIN.out⟩
end Go.Proofs.Qxb6000844a
