/-
  THE PROOF OF 'Rows.FnEitherFieldExactSaid': the walk, and the guide's own frame for a law whose memory behind the call is told by 'Below'.
-/
import Derived.Test.Qxb6601135aRows
import Derived.Test.Qxb6601135aArgs
import Derived.Test.Qxb6601135aExactWalk
import Derived.ChangeOld
import Derived.Below
namespace Go.Proofs.Qxb6601135a.fnEitherFieldExact
open Go.ChangeShapes Go.WideShapes Go.ChangeAt Go.RowKit
open Go.ChangeMaps (open_string shut_string)
set_option linter.unusedVariables false

theorem own : ownKnob Try.prog.godebug = none := by kernel_rfl
theorem laidOut : laidOutB Try.prog = true := by kernel_rfl

theorem walk (a0 : Option Addr) (len0 cap0 : Nat) (z0 : List ByteArray) (a1 : Option Addr) (len1 cap1 : Nat) (z1 : List Bool) (a2 : Option Addr) (len2 cap2 : Nat) (z2 : List Nat) (a3 : Option Addr) (len3 cap3 : Nat) (z3 : List ByteArray) (a4 : Int) (w : World)
    (w0 : z0.length = len0 ∧ CellsIn w 0 w.heap.size a0 (strV z0)) (w1 : z1.length = len1 ∧ CellsIn w 0 w.heap.size a1 (blV z1)) (w2 : z2.length = len2 ∧ CellsIn w 0 w.heap.size a2 (wdV z2) ∧ ∀ x ∈ z2, x < 18446744073709551616) (w3 : z3.length = len3 ∧ CellsIn w 0 w.heap.size a3 (strV z3)) (w4 : (Lit.int .u64 a4).wf = true) :
    Calls Try.prog 7 #[.slice a0 len0 cap0, .slice a1 len1 cap1, .slice a2 len2 cap2, .slice a3 len3 cap3, .int .u64 a4] w fun e w' => e = .returned (.bool true) ∧ Below w.heap.size w w' := by
  obtain ⟨rfl, h0⟩ := w0
  obtain ⟨rfl, h1⟩ := w1
  obtain ⟨rfl, h2, h2b⟩ := w2
  obtain ⟨rfl, h3⟩ := w3
  have hb := bounds_u64 w4
  obtain ⟨bit, rfl⟩ := Int.eq_ofNat_of_zero_le hb.1
  exact exact_walk a0 a1 a2 a3 cap0 cap1 cap2 cap3 bit z0 z3 z1 z2 w h0 h1 h2 h3 (by omega) h2b

/-! ### THE ROW's STEP -/
set_option maxRecDepth 100000 in
theorem lifted (os : Os) (started : os.Started) (H : Type) (enc : TypeId × Value → H) :
    ReturnsInHanded {} Try.checked os 7 .any (Rows.fnEitherFieldExactSpec.pre6 enc Try.prog Try.f7 Rows.fnEitherFieldExactRow.domain false) (Rows.fnEitherFieldExactSpec.post enc Try.prog Try.f7 false true false false) := by
  refine returnsInHanded_of_change (C := Try.checked) own started (by kernel_rfl) Try.func7
    (ChangeSpec.witness6 (enc := enc) (C := Try.checked) false ⟨#[], #[.slice none 0 0, .slice none 0 0, .slice none 0 0, .slice none 0 0, .int .u64 0], []⟩ 8 (by kernel_rfl) (by kernel_rfl) (by kernel_rfl) (by kernel_rfl)) ?_
  intro W base args ds gs before hval0 hW hcnd _
  have hval : ∀ (j : Nat) t v, Try.f7.params[j]? = some t → args[j]? = some v → Value.okWide Try.prog W .any base t v := hval0
  have hW' := hW
  obtain ⟨p, q, hA0, hV, rfl, hfz, hnd⟩ := hW
  have hA : DataW.TrodAll enc Try.prog W 0 (fun _ => true) true Try.f7.params.toList args.toList ds p := hA0
  rw [Try.params7] at hA hval
  obtain ⟨v0, vs0, d0, ds0, p0, q0, hargs, rfl, rfl, h0, r0⟩ := trodAll_cons hA
  obtain ⟨v1, vs1, d1, ds1, p1, q1, rfl, rfl, rfl, h1, r1⟩ := trodAll_cons r0
  obtain ⟨v2, vs2, d2, ds2, p2, q2, rfl, rfl, rfl, h2, r2⟩ := trodAll_cons r1
  obtain ⟨v3, vs3, d3, ds3, p3, q3, rfl, rfl, rfl, h3, r3⟩ := trodAll_cons r2
  obtain ⟨v4, vs4, d4, ds4, p4, q4, rfl, rfl, rfl, h4, r4⟩ := trodAll_cons r3
  obtain ⟨rfl, rfl, rfl⟩ := trodAll_nil r4
  obtain rfl : args = #[v0, v1, v2, v3, v4] := by cases args; simp_all
  obtain ⟨rfl, rfl⟩ := trodVars_none hV
  obtain ⟨a0, len0, cap0, rfl⟩ := okWide_slice Try.underlying32 (hval 0 32 v0 rfl rfl)
  have k0 := h0
  have lt0 : ∀ x ∈ p0, x.block < W.heap.size := by obtain ⟨m, hm⟩ := k0; exact DataW.trod_lt m _ _ _ hm
  obtain ⟨z0, w0⟩ : ∃ z : List ByteArray, z.length = len0 ∧ CellsIn W 0 W.heap.size a0 (strV z) := by
    obtain ⟨fuel, hf⟩ := h0
    rcases open_strings Try.underlying32 Try.underlying9 (by kernel_rfl) hf with ⟨hcs, _⟩ | ⟨x, l, c, ss, hcs, _, hl, hm, hz, _, hcell, hws⟩
    · simp [Value.cells] at hcs
      obtain ⟨rfl, rfl, rfl⟩ := hcs
      exact ⟨[], rfl, CellsIn.nil _ _ _ _⟩
    · simp [Value.cells] at hcs
      obtain ⟨rfl, rfl, rfl⟩ := hcs
      simp only [if_true] at hz
      exact ⟨ss.take len0, by rw [List.length_take]; omega, strs_arg ss _ hcell⟩
  obtain ⟨a1, len1, cap1, rfl⟩ := okWide_slice Try.underlying33 (hval 1 33 v1 rfl rfl)
  have k1 := h1
  have lt1 : ∀ x ∈ p1, x.block < W.heap.size := by obtain ⟨m, hm⟩ := k1; exact DataW.trod_lt m _ _ _ hm
  obtain ⟨z1, w1⟩ : ∃ z : List Bool, z.length = len1 ∧ CellsIn W 0 W.heap.size a1 (blV z) := by
    obtain ⟨fuel, hf⟩ := h1
    rcases Go.Deep.open_bools Try.underlying33 Try.underlying4 (by kernel_rfl) hf with ⟨hcs, _⟩ | ⟨x, l, c, Bf, hcs, _, hl, hm, _, hcell⟩
    · simp [Value.cells] at hcs
      obtain ⟨rfl, rfl, rfl⟩ := hcs
      exact ⟨[], rfl, CellsIn.nil _ _ _ _⟩
    · simp [Value.cells] at hcs
      obtain ⟨rfl, rfl, rfl⟩ := hcs
      exact ⟨(List.range len1).map Bf, by simp, bools_arg Bf _ _ hl hcell⟩
  obtain ⟨a2, len2, cap2, rfl⟩ := okWide_slice Try.underlying34 (hval 2 34 v2 rfl rfl)
  have k2 := h2
  have lt2 : ∀ x ∈ p2, x.block < W.heap.size := by obtain ⟨m, hm⟩ := k2; exact DataW.trod_lt m _ _ _ hm
  obtain ⟨z2, w2⟩ : ∃ z : List Nat, z.length = len2 ∧ CellsIn W 0 W.heap.size a2 (wdV z) ∧ ∀ x ∈ z, x < 18446744073709551616 := by
    obtain ⟨fuel, hf⟩ := h2
    rcases open_ints Try.underlying34 Try.underlying35 (by kernel_rfl) hf with ⟨hcs, _⟩ | ⟨x, l, c, zs, hcs, _, hl, hm, hz, _, hcell, hwz⟩
    · simp [Value.cells] at hcs
      obtain ⟨rfl, rfl, rfl⟩ := hcs
      exact ⟨[], rfl, CellsIn.nil _ _ _ _, fun x hx => by cases hx⟩
    · simp [Value.cells] at hcs
      obtain ⟨rfl, rfl, rfl⟩ := hcs
      simp only [if_true] at hz
      exact ⟨(zs.take len2).map Int.toNat, by rw [List.length_map, List.length_take]; omega, words_arg zs _ hcell hwz, words_lt zs _ hwz⟩
  obtain ⟨a3, len3, cap3, rfl⟩ := okWide_slice Try.underlying32 (hval 3 32 v3 rfl rfl)
  have k3 := h3
  have lt3 : ∀ x ∈ p3, x.block < W.heap.size := by obtain ⟨m, hm⟩ := k3; exact DataW.trod_lt m _ _ _ hm
  obtain ⟨z3, w3⟩ : ∃ z : List ByteArray, z.length = len3 ∧ CellsIn W 0 W.heap.size a3 (strV z) := by
    obtain ⟨fuel, hf⟩ := h3
    rcases open_strings Try.underlying32 Try.underlying9 (by kernel_rfl) hf with ⟨hcs, _⟩ | ⟨x, l, c, ss, hcs, _, hl, hm, hz, _, hcell, hws⟩
    · simp [Value.cells] at hcs
      obtain ⟨rfl, rfl, rfl⟩ := hcs
      exact ⟨[], rfl, CellsIn.nil _ _ _ _⟩
    · simp [Value.cells] at hcs
      obtain ⟨rfl, rfl, rfl⟩ := hcs
      simp only [if_true] at hz
      exact ⟨ss.take len3, by rw [List.length_take]; omega, strs_arg ss _ hcell⟩
  obtain ⟨a4, rfl, rfl, rfl, w4⟩ := open_int Try.underlying35 (hval 4 35 v4 rfl rfl) h4
  clear hA0 hval0
  refine (walk a0 len0 cap0 z0 a1 len1 cap1 z1 a2 len2 cap2 z2 a3 len3 cap3 z3 a4 W w0 w1 w2 w3 w4).mono fun e W' ⟨he, bel⟩ => ?_
  subst he
  exact ⟨_, rfl, _, _, _, [], _, [], hW', trodAll_mk1 (shut_bool Try.underlying4 _), (trodAll_cons_mk (Below.trod laidOut (by kernel_rfl) (of_decide_eq_true (by kernel_rfl)) k0 bel lt0) (trodAll_cons_mk (Below.trod laidOut (by kernel_rfl) (of_decide_eq_true (by kernel_rfl)) k1 bel lt1) (trodAll_cons_mk (Below.trod laidOut (by kernel_rfl) (of_decide_eq_true (by kernel_rfl)) k2 bel lt2) (trodAll_cons_mk (Below.trod laidOut (by kernel_rfl) (of_decide_eq_true (by kernel_rfl)) k3 bel lt3) (trodAll_cons_mk (shut_int Try.underlying35 w4) trodAll_mk0))))), rfl, bel.frame _, fun h => by cases h⟩

theorem over : Rows.fnEitherFieldExactRow.holds Try.pinned (OpenSpec.ofChange Rows.fnEitherFieldExactSpec) :=
  OpenClaim.holds_of_wide 7 Try.f7 rfl rfl rfl rfl rfl rfl rfl ⟨rfl, rfl, rfl, rfl, rfl⟩ rfl rfl rfl rfl rfl (by kernel_rfl) Try.func7 (by kernel_rfl)
    (of_decide_eq_true (by kernel_rfl)) (by unfold Func.isWrapper; first | (rw [if_pos (by decide +kernel)]; kernel_rfl) | (rw [if_neg (by decide +kernel)]; exact ⟨rfl, rfl⟩))
    (fun os started H enc _ => lifted os started H enc)

/-- THE STATEMENT -/
theorem proved : Rows.FnEitherFieldExactSaid := over
#print axioms proved
end Go.Proofs.Qxb6601135a.fnEitherFieldExact
