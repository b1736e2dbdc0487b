/-
  THE SHELL OF A PROOF OF 'Rows.FnIsDigitsAgreesWithParseSmallSaid' ('example.com/tracuu/tracuu/zzlaws_internal_money_b1.FnIsDigitsAgreesWithParseSmall'), WRITTEN BY PROGRAM (proof-skeleton.mjs) off the guide's own print for that function. 
  The walk is filled; all else is the guide's template at this function's number and types.
-/
import Derived.Test.Qxb6600417aRows
import Derived.Test.Qxb6600417aDigits
import Derived.WalkKit
import Derived.ProofKit
import Derived.OpenShut
import Derived.ShutString
namespace Go.Proofs.Qxb6600417a.fnIsDigitsAgreesWithParseSmall
open Go.ChangeShapes Go.WideShapes Go.ChangeAt Go.RowKit
open Go.ChangeMaps (open_string shut_string)
set_option linter.unusedVariables false      -- a walk need not use every 'w<i>' (that an integer argument fits its kind)

theorem own : ownKnob Try.prog.godebug = none := by kernel_rfl

theorem hide {p : Prop} (h : p) : Hid p := h
theorem F10z (s : ByteArray) (w : World) (hs : s.size ≤ 2000000) :
    Calls Try.prog 10 #[.string s, .int .i64 0] w fun e w' => e = .returned (.tuple #[.int .i64 (Pl.psV s.data.toList 0), .bool (Pl.okp s.data.toList 0)]) ∧ w' = w := by
  have h := F10 s 0 w hs (by omega)
  rw [show (((0 : Nat) : Int)) = 0 from rfl] at h
  exact h
theorem app_data (s t : ByteArray) : (s ++ t).data.toList = s.data.toList ++ t.data.toList := by
  rw [ByteArray.data_append, Array.toList_append]

/-! ### STEP 1: THE WALK: the Go text returns true. -/
set_option maxHeartbeats 1000000 in
theorem walk (a0 : ByteArray) (w0 : a0.size ≤ maxLen) (w : World) :
    Calls Try.prog 7 #[.string a0] w fun e w' => e = .returned (.bool true) ∧ Grown w w' := by
  unfold maxLen at w0
  by_cases hsz : a0.size ≤ 1048576
  · go_enter Try.func7, Try.ntmps7
    go_wp2
    go_loop [3] (fun i => ∃ k : Nat, k ≤ a0.size ∧ i = .int .i64 k ∧ Pl.noDot (a0.data.toList.take k) = true) (fun i => a0.size - (intOf i).toNat)
    case atStart => exact ⟨0, Nat.zero_le _, rfl, rfl⟩
    case round =>
      obtain ⟨k, hk, rfl, hall⟩ := hrel
      have HA := hide hall
      clear hall
      by_cases hlt : k < a0.size
      · have HG := hide (getq a0 k hlt)
        go_wp2
        · go_ret
          exact ⟨rfl, Grown.refl _⟩
        · have h46 : ((a0[k].toNat : Int) == 46) = false := by assumption
          go_round
          case rel => exact ⟨k + 1, by omega, by go_num, Pl.noDot_snoc _ k _ HA.out HG.out (by simp at h46; omega)⟩
          case measure => simp [intOf]; omega
      · have HND : Hid (Pl.noDot a0.data.toList = true) := by
          have h := HA.out
          rw [List.take_of_length_le (by rw [len_size]; omega)] at h
          exact h
        have HB := hide (Pl.ok_bare _ HND.out)
        rw [len_size] at HB
        go_wp2_with fail
        refine (F10z a0 _ (by omega)).mono ?_
        rintro _ _ ⟨rfl, rfl⟩
        go_wp2_with fail
        refine (F14 a0 _ (by omega)).mono ?_
        rintro _ _ ⟨rfl, rfl⟩
        have hB := HB.out
        cases hdg : Pl.isDg a0.data.toList with
        | false =>
          rw [hdg, Bool.false_and] at hB
          rw [hB]
          clear hB hdg
          go_wp2
          go_ret
          exact ⟨rfl, Grown.refl _⟩
        | true =>
          by_cases h18 : a0.size ≤ 18
          · rw [hdg, Bool.true_and, decide_eq_true h18] at hB
            have hz := Pl.dot_zero _ HND.out hB
            have E1 : Hid (Pl.okp (a0 ++ (⟨#[46, 48]⟩ : ByteArray)).data.toList 0 = true) := by rw [app_data]; exact hz.1
            have E2 : Hid (Pl.psV (a0 ++ (⟨#[46, 48]⟩ : ByteArray)).data.toList 0 = Pl.psV a0.data.toList 0) := by rw [app_data]; exact hz.2
            have hsz2 : (a0 ++ (⟨#[46, 48]⟩ : ByteArray)).size ≤ 2000000 := by rw [ByteArray.size_append]; show a0.size + 2 ≤ _; omega
            have HSZ := hide hsz2
            rw [hB]
            clear hB hdg hz hsz2
            generalize Pl.psV a0.data.toList 0 = y at *
            have hd18 : decide ((a0.size : Int) ≤ 18) = true := decide_eq_true (by omega)
            go_wp2_with fail
            refine (F10z _ _ HSZ.out).mono ?_
            rintro _ _ ⟨rfl, rfl⟩
            rw [E1.out, E2.out]
            go_wp2
            go_ret
            exact ⟨by simp, Grown.refl _⟩
          · rw [hdg, Bool.true_and, decide_eq_false h18] at hB
            rw [hB]
            clear hB hdg
            have hd18 : decide ((a0.size : Int) ≤ 18) = false := decide_eq_false (by omega)
            go_wp2
            go_ret
            exact ⟨rfl, Grown.refl _⟩
  · go_enter Try.func7, Try.ntmps7
    go_wp2
    go_ret
    exact ⟨rfl, Grown.refl _⟩

/-! ### THE ROW's STEP: WRITTEN OUT: LEAVE IT -/
set_option maxRecDepth 100000 in
theorem lifted (os : Os) (started : os.Started) (H : Type) (enc : TypeId × Value → H) :
    ReturnsInHanded {} Try.checked os 7 .any (Rows.fnIsDigitsAgreesWithParseSmallSpec.pre6 enc Try.prog Try.f7 Rows.fnIsDigitsAgreesWithParseSmallRow.domain false) (Rows.fnIsDigitsAgreesWithParseSmallSpec.post enc Try.prog Try.f7 false true false false) := by
  refine returnsInHanded_of_change (C := Try.checked) own started (by kernel_rfl) Try.func7
    (ChangeSpec.witness6 (enc := enc) (C := Try.checked) false ⟨#[], #[.string ByteArray.empty], []⟩ 8 (by kernel_rfl) (by kernel_rfl) (by kernel_rfl) (by kernel_rfl)) ?_
  intro W base args ds gs before hval0 hW hcnd _
  have hval : ∀ (j : Nat) t v, Try.f7.params[j]? = some t → args[j]? = some v → Value.okWide Try.prog W .any base t v := hval0
  have hW' := hW
  obtain ⟨p, q, hA0, hV, rfl, hfz, hnd⟩ := hW
  have hA : DataW.TrodAll enc Try.prog W 0 (fun _ => true) true Try.f7.params.toList args.toList ds p := hA0
  rw [Try.params7] at hA hval
  obtain ⟨v0, vs0, d0, ds0, p0, q0, hargs, rfl, rfl, h0, r0⟩ := trodAll_cons hA
  obtain ⟨rfl, rfl, rfl⟩ := trodAll_nil r0
  obtain rfl : args = #[v0] := by cases args; simp_all
  obtain ⟨rfl, rfl⟩ := trodVars_none hV
  obtain ⟨a0, rfl, rfl, rfl, w0⟩ := open_string Try.underlying9 (hval 0 9 v0 rfl rfl) h0
  clear hA0 hval0
  simp only [List.append_nil] at hW'
  refine (walk a0 w0 W).mono fun e W' ⟨he, hg⟩ => ?_
  subst he
  exact ⟨_, rfl, post_of_same (pa := []) (pv := []) hW' (fun _ _ _ => (trodAll_cons_mk (shut_bool Try.underlying4 _) trodAll_mk0)) (fun sp _ => (trodAll_cons_mk (shut_string Try.underlying9 w0) trodAll_mk0)) (fun _ _ => rfl) rfl
    (hg.frame _) hg.2.1 (ok_one (by kernel_rfl) rfl (okWide_bool_mk Try.underlying4 _))⟩

theorem over : Rows.fnIsDigitsAgreesWithParseSmallRow.holds Try.pinned (OpenSpec.ofChange Rows.fnIsDigitsAgreesWithParseSmallSpec) :=
  OpenClaim.holds_of_wide 7 Try.f7 rfl rfl rfl rfl rfl rfl rfl ⟨rfl, rfl, rfl, rfl, rfl⟩ rfl rfl rfl rfl rfl (by kernel_rfl) Try.func7 (by kernel_rfl)
    (of_decide_eq_true (by kernel_rfl)) (by unfold Func.isWrapper; first | (rw [if_pos (by decide +kernel)]; kernel_rfl) | (rw [if_neg (by decide +kernel)]; exact ⟨rfl, rfl⟩))
    (fun os started H enc _ => lifted os started H enc)

/-- ████ THE STATEMENT ████ -/
theorem proved : Rows.FnIsDigitsAgreesWithParseSmallSaid :=
  over
#print axioms proved
end Go.Proofs.Qxb6600417a.fnIsDigitsAgreesWithParseSmall
