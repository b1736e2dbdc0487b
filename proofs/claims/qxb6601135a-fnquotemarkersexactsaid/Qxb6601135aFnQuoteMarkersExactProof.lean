/-
  THE PROOF OF 'Rows.FnQuoteMarkersExactSaid': the walk, and the guide's own frame for a law whose memory behind the call is told by 'Below'.
-/
import Derived.Test.Qxb6601135aRows
import Derived.Test.Qxb6601135aMarkers
import Derived.ChangeOld
import Derived.Below
namespace Go.Proofs.Qxb6601135a.fnQuoteMarkersExact
open Go.ChangeShapes Go.WideShapes Go.ChangeAt Go.RowKit
open Go.ChangeMaps (open_string shut_string)
set_option linter.unusedVariables false

theorem own : ownKnob Try.prog.godebug = none := by kernel_rfl
theorem laidOut : laidOutB Try.prog = true := by kernel_rfl

theorem u8_conv (c : Nat) (h : c < 256) : IntKind.u8.wrap (c : Int) = (c : Int) := IntWalk.u8_in _ (by omega)

set_option maxHeartbeats 1600000 in
set_option maxRecDepth 100000 in
theorem walk (a0 : ByteArray) (w : World) (w0 : a0.size ≤ maxLen) :
    Calls Try.prog 3 #[.string a0] w fun e w' => e = .returned (.bool true) ∧ Below w.heap.size w w' := by
  unfold maxLen at w0
  by_cases hsz : a0.size ≤ 1048576
  case neg =>
    go_enter Try.func3, Try.ntmps3
    go_wp2
    go_ret
    exact ⟨rfl, Below.refl _ _⟩
  case pos =>
  have hnl := fun (wx : World) (a : Option Addr) (n c : Nat) => Lib.run_eql_slice_nil (P := Try.prog) wx 23 5 a n c 0 0 Try.underlying23
  go_enter Try.func3, Try.ntmps3
  go_wp2_with (first | (go_at_call 9; go_in) | fail)
  refine (F10 a0 _ (by omega)).mono ?_
  rintro _ w1 ⟨v, rfl, hown, hbel, hnil⟩
  obtain ⟨hl, hcase⟩ := owns_cases hown
  have HB := hide hbel
  have HNIL := hide hnil
  have hN := Pl.mk_len a0.data.toList
  clear hown hbel hnil hl
  obtain ⟨N, hNe⟩ : ∃ N, N = (Pl.mk a0.data.toList 32).length := ⟨_, rfl⟩
  have HNE := hide hNe
  rw [← hNe] at hcase hN
  clear hNe
  rcases hcase with ⟨rfl, hN0⟩ | ⟨g, cap, rfl, hg1, hg2, hcap, hcm, hcell⟩
  · subst hN0
    have HEM : Hid (Pl.mk a0.data.toList 32 = []) := List.eq_nil_of_length_eq_zero HNE.out.symm
    go_wp2_with fail
    go_loop [4, 5] (fun nv cv => ∃ c : Nat, c ≤ 256 ∧ cv = .int .i64 c ∧ nv = .int .i64 0) (fun _ cv => 256 - (intOf cv).toNat)
    case atStart => exact ⟨0, by omega, rfl, rfl⟩
    case round =>
      obtain ⟨c, hc, rfl, rfl⟩ := hrel
      by_cases hlt : c < 256
      · go_wp2_with fail
        refine (F11 c _ hlt).mono ?_
        rintro _ w2 ⟨rfl, hw2⟩
        subst w2
        cases hcn : Pl.cand c with
        | false =>
          clear hcn
          go_wp2_with fail
          go_round
          case rel => exact ⟨c + 1, by omega, by go_num, rfl⟩
          case measure => (simp [intOf]; try omega)
        | true =>
          have hh : Pl.holds a0.data.toList c = true := by
            cases h : Pl.holds a0.data.toList c with
            | true => rfl
            | false =>
              have h32 : c < 32 := by
                rcases Nat.lt_or_ge c 32 with h' | h'
                · exact h'
                · rw [Pl.cand_big c h'] at hcn; cases hcn
              have := (Pl.mem_mk a0.data.toList 32 c).2 ⟨h32, hcn, h⟩
              rw [HEM.out] at this; cases this
          have HH := hide hh
          clear hcn hh
          go_wp2_with fail
          refine (F12 a0 c _ (by omega) hlt).mono ?_
          rintro _ w2 ⟨rfl, hw2⟩
          subst w2
          rw [HH.out]
          go_wp2_with fail
          go_round
          case rel => exact ⟨c + 1, by omega, by go_num, rfl⟩
          case measure => (simp [intOf]; try omega)
      · go_wp2_with fail
        go_ret
        exact ⟨rfl, HB.out⟩
  · have HCELL := hide hcell
    clear hcell hcm
    go_wp2_with fail
    go_loop [4, 5] (fun nv cv => ∃ c m : Nat, c ≤ 256 ∧ cv = .int .i64 c ∧ nv = .int .i64 m ∧ m = (Pl.mk a0.data.toList c).length) (fun _ cv => 256 - (intOf cv).toNat)
    case atStart => exact ⟨0, 0, by omega, rfl, rfl, rfl⟩
    case round =>
      obtain ⟨c, m, hc, rfl, rfl, hm⟩ := hrel
      have HM := hide hm
      clear hm
      by_cases hlt : c < 256
      · go_wp2_with fail
        refine (F11 c _ hlt).mono ?_
        rintro _ w2 ⟨rfl, hw2⟩
        subst w2
        have hmb : m ≤ 26 := by
          rw [HM.out]
          rcases Nat.lt_or_ge c 32 with h' | h'
          · exact Pl.mk_len_le _ _ (by omega)
          · rw [Pl.mk_from _ c h']; exact Pl.mk_len _
        cases hcn : Pl.cand c with
        | false =>
          have HMS := hide (Pl.mk_miss1 a0.data.toList c hcn)
          clear hcn
          go_wp2_with fail
          go_round
          case rel => exact ⟨c + 1, m, by omega, by go_num, rfl, by rw [HMS.out]; exact HM.out⟩
          case measure => (simp [intOf]; try omega)
        | true =>
          have HCN := hide hcn
          clear hcn
          go_wp2_with fail
          refine (F12 a0 c _ (by omega) hlt).mono ?_
          rintro _ w2 ⟨rfl, hw2⟩
          subst w2
          cases hh : Pl.holds a0.data.toList c with
          | true =>
            have HMS := hide (Pl.mk_miss2 a0.data.toList c hh)
            clear hh
            go_wp2_with fail
            go_round
            case rel => exact ⟨c + 1, m, by omega, by go_num, rfl, by rw [HMS.out]; exact HM.out⟩
            case measure => (simp [intOf]; try omega)
          | false =>
            have h32 : c < 32 := by
              rcases Nat.lt_or_ge c 32 with h' | h'
              · exact h'
              · have := HCN.out; rw [Pl.cand_big c h'] at this; cases this
            have hat := Pl.mk_at a0.data.toList c h32 HCN.out hh
            rw [← HM.out] at hat
            have hmN : m < N := by
              rw [HNE.out]
              exact (List.getElem?_eq_some_iff.1 hat).1
            have hce : w1.cell? ⟨g, m, none⟩ = some (.int .u8 (c : Int)) := HCELL.out m _ (u8s_get _ _ _ hat)
            have HMS := hide (Pl.mk_hit a0.data.toList c HCN.out hh)
            clear hh hat
            go_wp2_with fail
            go_round
            case rel => exact ⟨c + 1, m + 1, by omega, by go_num, by go_num, by rw [HMS.out, List.length_append, ← HM.out]; rfl⟩
            case measure => (simp [intOf]; try omega)
      · obtain rfl : c = 256 := by omega
        obtain rfl : m = N := by rw [HM.out, HNE.out, Pl.mk_from _ 256 (by omega)]
        by_cases hm0 : m = 0
        · have := HNIL.out (List.eq_nil_of_length_eq_zero (by rw [← HNE.out]; exact hm0))
          cases this
        · have hmb : ((m : Int) == 0) = false := by simp [hm0]
          go_wp2_with fail
          go_ret
          exact ⟨rfl, HB.out⟩

/-! ### THE ROW's STEP -/
set_option maxRecDepth 100000 in
theorem lifted (os : Os) (started : os.Started) (H : Type) (enc : TypeId × Value → H) :
    ReturnsInHanded {} Try.checked os 3 .any (Rows.fnQuoteMarkersExactSpec.pre6 enc Try.prog Try.f3 Rows.fnQuoteMarkersExactRow.domain false) (Rows.fnQuoteMarkersExactSpec.post enc Try.prog Try.f3 false true false false) := by
  refine returnsInHanded_of_change (C := Try.checked) own started (by kernel_rfl) Try.func3
    (ChangeSpec.witness6 (enc := enc) (C := Try.checked) false ⟨#[], #[.string ByteArray.empty], []⟩ 8 (by kernel_rfl) (by kernel_rfl) (by kernel_rfl) (by kernel_rfl)) ?_
  intro W base args ds gs before hval0 hW hcnd _
  have hval : ∀ (j : Nat) t v, Try.f3.params[j]? = some t → args[j]? = some v → Value.okWide Try.prog W .any base t v := hval0
  have hW' := hW
  obtain ⟨p, q, hA0, hV, rfl, hfz, hnd⟩ := hW
  have hA : DataW.TrodAll enc Try.prog W 0 (fun _ => true) true Try.f3.params.toList args.toList ds p := hA0
  rw [Try.params3] at hA hval
  obtain ⟨v0, vs0, d0, ds0, p0, q0, hargs, rfl, rfl, h0, r0⟩ := trodAll_cons hA
  obtain ⟨rfl, rfl, rfl⟩ := trodAll_nil r0
  obtain rfl : args = #[v0] := by cases args; simp_all
  obtain ⟨rfl, rfl⟩ := trodVars_none hV
  obtain ⟨a0, rfl, rfl, rfl, w0⟩ := open_string Try.underlying9 (hval 0 9 v0 rfl rfl) h0
  clear hA0 hval0
  refine (walk a0 W w0).mono fun e W' ⟨he, bel⟩ => ?_
  subst he
  exact ⟨_, rfl, _, _, _, [], _, [], hW', trodAll_mk1 (shut_bool Try.underlying4 _), (trodAll_cons_mk (shut_string Try.underlying9 w0) trodAll_mk0), rfl, bel.frame _, fun h => by cases h⟩

theorem over : Rows.fnQuoteMarkersExactRow.holds Try.pinned (OpenSpec.ofChange Rows.fnQuoteMarkersExactSpec) :=
  OpenClaim.holds_of_wide 3 Try.f3 rfl rfl rfl rfl rfl rfl rfl ⟨rfl, rfl, rfl, rfl, rfl⟩ rfl rfl rfl rfl rfl (by kernel_rfl) Try.func3 (by kernel_rfl)
    (of_decide_eq_true (by kernel_rfl)) (by unfold Func.isWrapper; first | (rw [if_pos (by decide +kernel)]; kernel_rfl) | (rw [if_neg (by decide +kernel)]; exact ⟨rfl, rfl⟩))
    (fun os started H enc _ => lifted os started H enc)

/-- THE STATEMENT -/
theorem proved : Rows.FnQuoteMarkersExactSaid := over
#print axioms proved
end Go.Proofs.Qxb6601135a.fnQuoteMarkersExact
