/-
  The eight copies at the head of both laws over eitherField; the walk of FnEitherFieldKeepsBoth.
-/
import Derived.Test.Qxb6601135aKeep
import Derived.Test.Qxb6601135aEmbed
namespace Go.Proofs.Qxb6601135a
open Go.ChangeShapes Go.WideShapes Go.ChangeAt Go.RowKit
set_option linter.unusedVariables false

theorem clone_cells {w w' : World} {a' : Option Addr} {E : TypeId} {xs : List Value} (hr : ∀ ad, a' = some ad → ad = ⟨w.heap.size, 0, none⟩ ∧ RowV w' w.heap.size E xs) (h0 : a' = none → xs = []) : CellsIn w' w.heap.size w'.heap.size a' xs := by
  cases a' with
  | none => rw [h0 rfl]; exact CellsIn.nil _ _ _ _
  | some ad =>
    obtain ⟨rfl, hrow⟩ := hr ad rfl
    exact hrow.cellsAll.wide (Nat.le_refl _) hrow.lt
theorem none_of {w : World} {lo hi : Nat} {a a' : Option Addr} {xs : List Value} (h : CellsIn w lo hi a xs) (hn : a' = none ↔ a = none) : a' = none → xs = [] := fun e => by
  have := hn.1 e
  subst this
  exact nil_of_none h
theorem isNone_iff {a a' : Option Addr} (hn : a' = none ↔ a = none) : a'.isNone = a.isNone := by
  cases a <;> cases a' <;> simp_all

set_option maxHeartbeats 8000000 in
set_option maxRecDepth 100000 in
theorem keep_walk (aA aL aW aB : Option Addr) (cA cL cW cB bit : Nat) (A B : List ByteArray) (L : List Bool) (W : List Nat) (w0 : World)
    (hA : CellsIn w0 0 w0.heap.size aA (strV A)) (hL : CellsIn w0 0 w0.heap.size aL (blV L)) (hW : CellsIn w0 0 w0.heap.size aW (wdV W)) (hB : CellsIn w0 0 w0.heap.size aB (strV B))
    (hb : bit < 18446744073709551616) (hwb : ∀ x ∈ W, x < 18446744073709551616) :
    Calls Try.prog 8 #[.slice aA A.length cA, .slice aL L.length cL, .slice aW W.length cW, .slice aB B.length cB, .int .u64 (bit : Int)] w0 fun e w' => e = .returned (.bool true) ∧ Below w0.heap.size w0 w' := by
  have HA := hide hA
  have HL := hide hL
  have HW := hide hW
  have HBB := hide hB
  have HWB := hide hwb
  clear hA hL hW hB hwb
  have nq33 := fun (wx : World) (a : Option Addr) (n c : Nat) => run_neq_slice_nil_any (P := Try.prog) wx 33 4 a n c 0 0 Try.underlying33
  have nq34 := fun (wx : World) (a : Option Addr) (n c : Nat) => run_neq_slice_nil_any (P := Try.prog) wx 34 35 a n c 0 0 Try.underlying34
  have eq32 := fun (wx : World) (a : Option Addr) (n c : Nat) => Lib.run_eql_slice_nil (P := Try.prog) wx 32 9 a n c 0 0 Try.underlying32
  have eq33 := fun (wx : World) (a : Option Addr) (n c : Nat) => Lib.run_eql_slice_nil (P := Try.prog) wx 33 4 a n c 0 0 Try.underlying33
  have eq34 := fun (wx : World) (a : Option Addr) (n c : Nat) => Lib.run_eql_slice_nil (P := Try.prog) wx 34 35 a n c 0 0 Try.underlying34
  go_enter Try.func8, Try.ntmps8
  go_wp2_with fail
  refine (F29 aA aL aW aB cA cL cW cB _ _ _ _ A B L.length W.length bit _ HA.out HBB.out).mono ?_
  rintro _ w' ⟨r, rfl, -, hw'⟩
  subst w'
  cases r with
  | false =>
    go_wp2_with fail
    go_ret
    exact ⟨rfl, Below.refl _ _⟩
  | true =>
  go_wp2_with fail
  refine (F20 aA aL aW aB cA cL cW cB _ _ _ _ A B L.length W.length _ HA.out HBB.out).mono ?_
  rintro _ w' ⟨r, rfl, hr, hw'⟩
  subst w'
  cases r with
  | true =>
    clear hr
    go_wp2_with fail
    go_ret
    exact ⟨rfl, Below.refl _ _⟩
  | false =>
  obtain ⟨q1, q2, q3, q4⟩ := hr rfl
  clear hr
  have hLs : (aL.isNone = true ∨ (aL.isNone = false ∧ L.length = A.length)) ∨ (aL.isNone = false ∧ L.length ≠ A.length) := by
    cases aL.isNone <;> simp <;> omega
  rcases hLs with hLs | ⟨hLi, hLn⟩
  case inr =>
    have hLb : ((L.length : Int) != (A.length : Int)) = true := by simp; omega
    go_wp2_with fail
    go_ret
    exact ⟨rfl, Below.refl _ _⟩
  have hWs : (aW.isNone = true ∨ (aW.isNone = false ∧ W.length = A.length)) ∨ (aW.isNone = false ∧ W.length ≠ A.length) := by
    cases aW.isNone <;> simp <;> omega
  have HLcase : Hid ((aL = none ∧ L = []) ∨ (∃ ad, aL = some ad) ∧ L.length = A.length) := by
    rcases hLs with h | ⟨h, h'⟩
    · cases aL with
      | none => exact Or.inl ⟨rfl, blV_nil L (nil_of_none HL.out)⟩
      | some ad => cases h
    · cases aL with
      | none => cases h
      | some ad => exact Or.inr ⟨⟨ad, rfl⟩, h'⟩
  rcases hWs with hWs | ⟨hWi, hWn⟩
  case inr =>
    have hWb : ((W.length : Int) != (A.length : Int)) = true := by simp; omega
    rcases hLs with hLi | ⟨hLi, hLe⟩
    · clear HLcase
      go_wp2_with fail
      go_ret
      exact ⟨rfl, Below.refl _ _⟩
    · have hLb : ((L.length : Int) != (A.length : Int)) = false := by simp; omega
      clear HLcase hLe
      go_wp2_with fail
      go_ret
      exact ⟨rfl, Below.refl _ _⟩
  have HWcase : Hid ((aW = none ∧ W = []) ∨ (∃ ad, aW = some ad) ∧ W.length = A.length) := by
    rcases hWs with h | ⟨h, h'⟩
    · cases aW with
      | none => exact Or.inl ⟨rfl, wdV_nil W (nil_of_none HW.out)⟩
      | some ad => cases h
    · cases aW with
      | none => cases h
      | some ad => exact Or.inr ⟨⟨ad, rfl⟩, h'⟩
  obtain ⟨hLd⟩ : Nonempty ((aL.isNone = true) ∨ (aL.isNone = false ∧ ((L.length : Int) != (A.length : Int)) = false)) := ⟨by
    rcases hLs with h | ⟨h, h'⟩
    · exact Or.inl h
    · exact Or.inr ⟨h, by simp; omega⟩⟩
  obtain ⟨hWd⟩ : Nonempty ((aW.isNone = true) ∨ (aW.isNone = false ∧ ((W.length : Int) != (A.length : Int)) = false)) := ⟨by
    rcases hWs with h | ⟨h, h'⟩
    · exact Or.inl h
    · exact Or.inr ⟨h, by simp; omega⟩⟩
  clear hLs hWs
  rcases hLd with hLi | ⟨hLi, hLb⟩
  · rcases hWd with hWi | ⟨hWi, hWb⟩
    · skip
      go_wp2_with fail
      refine (F21 aA cA _ _ A _ (HA.out) (Nat.le_refl _) (by omega)).mono ?_
      rintro _ w1 ⟨a1, rfl, hn, hr, hb⟩
      have HN1 := hide hn
      have HR1 := hide hr
      have HC1 : Hid (CellsIn w1 w0.heap.size w1.heap.size a1 (strV A)) := clone_cells hr (none_of (HA.out) hn)
      have HB1 := hide hb
      have s1 := hb.size
      clear hn hr hb
      go_wp2_with fail
      refine (F22 aL cL _ _ L _ (HL.out.below HB1.out (Nat.le_refl _)) (by omega) (by omega)).mono ?_
      rintro _ w2 ⟨a2, rfl, hn, hr, hb⟩
      have HN2 := hide hn
      have HR2 := hide hr
      have HC2 : Hid (CellsIn w2 w1.heap.size w2.heap.size a2 (blV L)) := clone_cells hr (none_of (HL.out.below HB1.out (Nat.le_refl _)) hn)
      have HB2 := hide hb
      have s2 := hb.size
      clear hn hr hb
      go_wp2_with fail
      refine (F23 aW cW _ _ W _ (HW.out.below (below_trans HB1.out HB2.out) (Nat.le_refl _)) (by omega) (by omega)).mono ?_
      rintro _ w3 ⟨a3, rfl, hn, hr, hb⟩
      have HN3 := hide hn
      have HR3 := hide hr
      have HC3 : Hid (CellsIn w3 w2.heap.size w3.heap.size a3 (wdV W)) := clone_cells hr (none_of (HW.out.below (below_trans HB1.out HB2.out) (Nat.le_refl _)) hn)
      have HB3 := hide hb
      have s3 := hb.size
      clear hn hr hb
      go_wp2_with fail
      refine (F21 aB cB _ _ B _ (HBB.out.below (below_trans (below_trans HB1.out HB2.out) HB3.out) (Nat.le_refl _)) (by omega) (by omega)).mono ?_
      rintro _ w4 ⟨a4, rfl, hn, hr, hb⟩
      have HN4 := hide hn
      have HR4 := hide hr
      have HC4 : Hid (CellsIn w4 w3.heap.size w4.heap.size a4 (strV B)) := clone_cells hr (none_of (HBB.out.below (below_trans (below_trans HB1.out HB2.out) HB3.out) (Nat.le_refl _)) hn)
      have HB4 := hide hb
      have s4 := hb.size
      clear hn hr hb
      go_wp2_with fail
      refine (F21 a1 _ _ _ A _ (HC1.out.below (below_trans (below_trans HB2.out HB3.out) HB4.out) (Nat.le_refl _)) (by omega) (by omega)).mono ?_
      rintro _ w5 ⟨a5, rfl, hn, hr, hb⟩
      have HN5 := hide hn
      have HR5 := hide hr
      have HC5 : Hid (CellsIn w5 w4.heap.size w5.heap.size a5 (strV A)) := clone_cells hr (none_of (HC1.out.below (below_trans (below_trans HB2.out HB3.out) HB4.out) (Nat.le_refl _)) hn)
      have HB5 := hide hb
      have s5 := hb.size
      clear hn hr hb
      go_wp2_with fail
      refine (F22 a2 _ _ _ L _ (HC2.out.below (below_trans (below_trans HB3.out HB4.out) HB5.out) (Nat.le_refl _)) (by omega) (by omega)).mono ?_
      rintro _ w6 ⟨a6, rfl, hn, hr, hb⟩
      have HN6 := hide hn
      have HR6 := hide hr
      have HC6 : Hid (CellsIn w6 w5.heap.size w6.heap.size a6 (blV L)) := clone_cells hr (none_of (HC2.out.below (below_trans (below_trans HB3.out HB4.out) HB5.out) (Nat.le_refl _)) hn)
      have HB6 := hide hb
      have s6 := hb.size
      clear hn hr hb
      go_wp2_with fail
      refine (F23 a3 _ _ _ W _ (HC3.out.below (below_trans (below_trans HB4.out HB5.out) HB6.out) (Nat.le_refl _)) (by omega) (by omega)).mono ?_
      rintro _ w7 ⟨a7, rfl, hn, hr, hb⟩
      have HN7 := hide hn
      have HR7 := hide hr
      have HC7 : Hid (CellsIn w7 w6.heap.size w7.heap.size a7 (wdV W)) := clone_cells hr (none_of (HC3.out.below (below_trans (below_trans HB4.out HB5.out) HB6.out) (Nat.le_refl _)) hn)
      have HB7 := hide hb
      have s7 := hb.size
      clear hn hr hb
      go_wp2_with fail
      refine (F21 a4 _ _ _ B _ (HC4.out.below (below_trans (below_trans HB5.out HB6.out) HB7.out) (Nat.le_refl _)) (by omega) (by omega)).mono ?_
      rintro _ w8 ⟨a8, rfl, hn, hr, hb⟩
      have HN8 := hide hn
      have HR8 := hide hr
      have HC8 : Hid (CellsIn w8 w7.heap.size w8.heap.size a8 (strV B)) := clone_cells hr (none_of (HC4.out.below (below_trans (below_trans HB5.out HB6.out) HB7.out) (Nat.le_refl _)) hn)
      have HB8 := hide hb
      have s8 := hb.size
      clear hn hr hb
      have HLc2 : Hid ((a2 = none ∧ L = []) ∨ (∃ ad, a2 = some ad) ∧ L.length = A.length) := by
        rcases HLcase.out with ⟨h, h'⟩ | ⟨⟨ad, h⟩, h'⟩
        · exact Or.inl ⟨HN2.out.2 h, h'⟩
        · refine Or.inr ⟨?_, h'⟩
          cases e : a2 with
          | none => have := HN2.out.1 e; rw [this] at h; cases h
          | some x => exact ⟨x, rfl⟩
      obtain ⟨gW, HGW⟩ : ∃ gW, Hid (w2.heap.size ≤ gW ∧ (gW < w4.heap.size ∨ w8.heap.size ≤ gW) ∧ ((a3 = none ∧ W = []) ∨ (a3 = some ⟨gW, 0, none⟩ ∧ RowV w8 gW 35 (wdV W) ∧ W.length = A.length))) := by
        rcases HWcase.out with ⟨h, h'⟩ | ⟨⟨ad, h⟩, h'⟩
        · exact ⟨w8.heap.size, by omega, Or.inr (Nat.le_refl _), Or.inl ⟨HN3.out.2 h, h'⟩⟩
        · cases e : a3 with
          | none => have := HN3.out.1 e; rw [this] at h; cases h
          | some x =>
            obtain ⟨rfl, hrow⟩ := HR3.out x e
            have hl := hrow.lt
            exact ⟨w2.heap.size, Nat.le_refl _, Or.inl (by omega), Or.inr ⟨rfl, hrow.below (below_trans (below_trans (below_trans (below_trans HB4.out HB5.out) HB6.out) HB7.out) HB8.out) hl, h'⟩⟩
      have g1 := HGW.out.1
      have g2 := HGW.out.2.1
      go_wp2_with (first | (go_at_call 26; go_in) | fail)
      refine (either_keep a1 a2 a3 a4 gW w0.heap.size w1.heap.size w3.heap.size w4.heap.size w1.heap.size w2.heap.size bit A B L W w8 (HC1.out.below (below_trans (below_trans (below_trans (below_trans (below_trans (below_trans HB2.out HB3.out) HB4.out) HB5.out) HB6.out) HB7.out) HB8.out) (Nat.le_refl _)) (HC4.out.below (below_trans (below_trans (below_trans HB5.out HB6.out) HB7.out) HB8.out) (Nat.le_refl _)) (HC2.out.below (below_trans (below_trans (below_trans (below_trans (below_trans HB3.out HB4.out) HB5.out) HB6.out) HB7.out) HB8.out) (Nat.le_refl _)) (by omega) (by omega) (by omega) (by omega) (by omega) (by omega) (by omega) (by omega) hb HWB.out HLc2.out HGW.out.2.2).mono ?_
      rintro _ w9 ⟨aF, cF, aG, cG, aV, cV, F, G, V, rfl, hcF, hcG, hcV, hgr, hk⟩
      have HF := hide hcF
      have HG := hide hcG
      have HV := hide hcV
      have HGR := hide hgr
      have HK := hide hk
      have s9 := hgr.size
      have HK5 := hide ((grown_keep (HC5.out.below (below_trans (below_trans HB6.out HB7.out) HB8.out) (Nat.le_refl _)) hgr (by omega) (by omega)).wide (Nat.zero_le _) (show w5.heap.size ≤ w9.heap.size by omega))
      have HK6 := hide ((grown_keep (HC6.out.below (below_trans HB7.out HB8.out) (Nat.le_refl _)) hgr (by omega) (by omega)).wide (Nat.zero_le _) (show w6.heap.size ≤ w9.heap.size by omega))
      have HK7 := hide ((grown_keep (HC7.out.below HB8.out (Nat.le_refl _)) hgr (by omega) (by omega)).wide (Nat.zero_le _) (show w7.heap.size ≤ w9.heap.size by omega))
      have HK8 := hide ((grown_keep HC8.out hgr (by omega) (by omega)).wide (Nat.zero_le _) (show w8.heap.size ≤ w9.heap.size by omega))
      have HB09 := hide ((below_trans (below_trans (below_trans (below_trans (below_trans (below_trans (below_trans HB1.out HB2.out) HB3.out) HB4.out) HB5.out) HB6.out) HB7.out) HB8.out).grown hgr (by omega) (fun k hk => by cases hk; omega))
      have i2 : a2.isNone = aL.isNone := isNone_iff HN2.out
      have i3 : a3.isNone = aW.isNone := isNone_iff HN3.out
      have i6 : a6.isNone = aL.isNone := (isNone_iff HN6.out).trans (isNone_iff HN2.out)
      have i7 : a7.isNone = aW.isNone := (isNone_iff HN7.out).trans (isNone_iff HN3.out)
      rw [hLi] at i2 i6
      rw [hWi] at i3 i7
      clear hcF hcG hcV hgr hk HGW g1 g2 HLc2 HC1 HC2 HC3 HC4 HC5 HC6 HC7 HC8 HR1 HR2 HR3 HR4 HR5 HR6 HR7 HR8 HB1 HB2 HB3 HB4 HB5 HB6 HB7 HB8 HN1 HN2 HN3 HN4 HN5 HN6 HN7 HN8 HA HL HW HBB
      have hFl := HK.out.lenF
      go_wp2_with fail
      refine (F25 a5 aF _ cF _ _ _ _ A F w9 HK5.out HF.out (Nat.le_refl _) (Nat.le_refl _) (by omega) (by omega)).mono ?_
      rintro _ w10 ⟨hb10, ⟨_, rfl, _⟩ | ⟨hno, _⟩⟩
      case inr => exact absurd HK.out.embA hno
      have HBa := hide hb10
      have s10 := hb10.size
      clear hb10
      go_wp2_with fail
      refine (F25 a8 aF _ cF _ _ _ _ B F w10 (HK8.out.below HBa.out (Nat.le_refl _)) (HF.out.below HBa.out (Nat.le_refl _)) (by omega) (by omega) (by omega) (by omega)).mono ?_
      rintro _ w11 ⟨hb11, ⟨_, rfl, _⟩ | ⟨hno, _⟩⟩
      case inr => exact absurd HK.out.embB hno
      have HBb := hide (below_trans HBa.out hb11)
      have s11 := hb11.size
      clear hb11
      have HG11 := hide (HG.out.below HBb.out (Nat.le_refl _))
      have HV11 := hide (HV.out.below HBb.out (Nat.le_refl _))
      have H611 := hide (HK6.out.below HBb.out (Nat.le_refl _))
      have H711 := hide (HK7.out.below HBb.out (Nat.le_refl _))
      have HFIN := hide (HB09.out.trans (HBb.out.mono (by omega)))
      clear HF HG HV HK5 HK6 HK7 HK8 HBa HBb HB09 HGR
      have hGl : G.length ≤ 140000 := by
        rcases HK.out.lenG with ⟨_, _, h⟩ | h
        · rw [h]; simp
        · omega
      have hlenG : (aG.isNone = true ∧ a2.isNone = true) ∨ ((G.length : Int) != (F.length : Int)) = false := by
        rcases HK.out.lenG with ⟨h, h', _⟩ | h
        · rw [h, h']; exact Or.inl ⟨rfl, rfl⟩
        · exact Or.inr (by simp; omega)
      have hfew := HK.out.few
      have hfew2 : Ef.falses G ≤ A.length := by
        cases e : a2 with
        | none => rw [e] at hfew; exact hfew
        | some x => rw [e] at i2; cases i2
      clear hfew
      cases hGi : aG.isNone
      all_goals
        have hGb : ((G.length : Int) != (F.length : Int)) = false ∨ (aG.isNone = true ∧ a2.isNone = true) := hlenG.symm
        rw [hGi, i2] at hGb
        first
        | (have hGb' : ((G.length : Int) != (F.length : Int)) = false := by simpa using hGb)
        | skip
        clear hlenG hGb
        go_wp2_with fail
        refine (F30 aG _ _ _ G _ HG11.out (by omega)).mono ?_
        rintro _ w' ⟨rfl, hw'⟩
        subst w'
        have hVn : aV.isNone = true := by
          have h3 : a3 = none := by cases e : a3 with | none => rfl | some x => rw [e] at i3; cases i3
          rw [(HK.out.nilW h3).1]; rfl
        go_wp2_with fail
        go_ret
        exact ⟨rfl, HFIN.out⟩
    · skip
      go_wp2_with fail
      refine (F21 aA cA _ _ A _ (HA.out) (Nat.le_refl _) (by omega)).mono ?_
      rintro _ w1 ⟨a1, rfl, hn, hr, hb⟩
      have HN1 := hide hn
      have HR1 := hide hr
      have HC1 : Hid (CellsIn w1 w0.heap.size w1.heap.size a1 (strV A)) := clone_cells hr (none_of (HA.out) hn)
      have HB1 := hide hb
      have s1 := hb.size
      clear hn hr hb
      go_wp2_with fail
      refine (F22 aL cL _ _ L _ (HL.out.below HB1.out (Nat.le_refl _)) (by omega) (by omega)).mono ?_
      rintro _ w2 ⟨a2, rfl, hn, hr, hb⟩
      have HN2 := hide hn
      have HR2 := hide hr
      have HC2 : Hid (CellsIn w2 w1.heap.size w2.heap.size a2 (blV L)) := clone_cells hr (none_of (HL.out.below HB1.out (Nat.le_refl _)) hn)
      have HB2 := hide hb
      have s2 := hb.size
      clear hn hr hb
      go_wp2_with fail
      refine (F23 aW cW _ _ W _ (HW.out.below (below_trans HB1.out HB2.out) (Nat.le_refl _)) (by omega) (by omega)).mono ?_
      rintro _ w3 ⟨a3, rfl, hn, hr, hb⟩
      have HN3 := hide hn
      have HR3 := hide hr
      have HC3 : Hid (CellsIn w3 w2.heap.size w3.heap.size a3 (wdV W)) := clone_cells hr (none_of (HW.out.below (below_trans HB1.out HB2.out) (Nat.le_refl _)) hn)
      have HB3 := hide hb
      have s3 := hb.size
      clear hn hr hb
      go_wp2_with fail
      refine (F21 aB cB _ _ B _ (HBB.out.below (below_trans (below_trans HB1.out HB2.out) HB3.out) (Nat.le_refl _)) (by omega) (by omega)).mono ?_
      rintro _ w4 ⟨a4, rfl, hn, hr, hb⟩
      have HN4 := hide hn
      have HR4 := hide hr
      have HC4 : Hid (CellsIn w4 w3.heap.size w4.heap.size a4 (strV B)) := clone_cells hr (none_of (HBB.out.below (below_trans (below_trans HB1.out HB2.out) HB3.out) (Nat.le_refl _)) hn)
      have HB4 := hide hb
      have s4 := hb.size
      clear hn hr hb
      go_wp2_with fail
      refine (F21 a1 _ _ _ A _ (HC1.out.below (below_trans (below_trans HB2.out HB3.out) HB4.out) (Nat.le_refl _)) (by omega) (by omega)).mono ?_
      rintro _ w5 ⟨a5, rfl, hn, hr, hb⟩
      have HN5 := hide hn
      have HR5 := hide hr
      have HC5 : Hid (CellsIn w5 w4.heap.size w5.heap.size a5 (strV A)) := clone_cells hr (none_of (HC1.out.below (below_trans (below_trans HB2.out HB3.out) HB4.out) (Nat.le_refl _)) hn)
      have HB5 := hide hb
      have s5 := hb.size
      clear hn hr hb
      go_wp2_with fail
      refine (F22 a2 _ _ _ L _ (HC2.out.below (below_trans (below_trans HB3.out HB4.out) HB5.out) (Nat.le_refl _)) (by omega) (by omega)).mono ?_
      rintro _ w6 ⟨a6, rfl, hn, hr, hb⟩
      have HN6 := hide hn
      have HR6 := hide hr
      have HC6 : Hid (CellsIn w6 w5.heap.size w6.heap.size a6 (blV L)) := clone_cells hr (none_of (HC2.out.below (below_trans (below_trans HB3.out HB4.out) HB5.out) (Nat.le_refl _)) hn)
      have HB6 := hide hb
      have s6 := hb.size
      clear hn hr hb
      go_wp2_with fail
      refine (F23 a3 _ _ _ W _ (HC3.out.below (below_trans (below_trans HB4.out HB5.out) HB6.out) (Nat.le_refl _)) (by omega) (by omega)).mono ?_
      rintro _ w7 ⟨a7, rfl, hn, hr, hb⟩
      have HN7 := hide hn
      have HR7 := hide hr
      have HC7 : Hid (CellsIn w7 w6.heap.size w7.heap.size a7 (wdV W)) := clone_cells hr (none_of (HC3.out.below (below_trans (below_trans HB4.out HB5.out) HB6.out) (Nat.le_refl _)) hn)
      have HB7 := hide hb
      have s7 := hb.size
      clear hn hr hb
      go_wp2_with fail
      refine (F21 a4 _ _ _ B _ (HC4.out.below (below_trans (below_trans HB5.out HB6.out) HB7.out) (Nat.le_refl _)) (by omega) (by omega)).mono ?_
      rintro _ w8 ⟨a8, rfl, hn, hr, hb⟩
      have HN8 := hide hn
      have HR8 := hide hr
      have HC8 : Hid (CellsIn w8 w7.heap.size w8.heap.size a8 (strV B)) := clone_cells hr (none_of (HC4.out.below (below_trans (below_trans HB5.out HB6.out) HB7.out) (Nat.le_refl _)) hn)
      have HB8 := hide hb
      have s8 := hb.size
      clear hn hr hb
      have HLc2 : Hid ((a2 = none ∧ L = []) ∨ (∃ ad, a2 = some ad) ∧ L.length = A.length) := by
        rcases HLcase.out with ⟨h, h'⟩ | ⟨⟨ad, h⟩, h'⟩
        · exact Or.inl ⟨HN2.out.2 h, h'⟩
        · refine Or.inr ⟨?_, h'⟩
          cases e : a2 with
          | none => have := HN2.out.1 e; rw [this] at h; cases h
          | some x => exact ⟨x, rfl⟩
      obtain ⟨gW, HGW⟩ : ∃ gW, Hid (w2.heap.size ≤ gW ∧ (gW < w4.heap.size ∨ w8.heap.size ≤ gW) ∧ ((a3 = none ∧ W = []) ∨ (a3 = some ⟨gW, 0, none⟩ ∧ RowV w8 gW 35 (wdV W) ∧ W.length = A.length))) := by
        rcases HWcase.out with ⟨h, h'⟩ | ⟨⟨ad, h⟩, h'⟩
        · exact ⟨w8.heap.size, by omega, Or.inr (Nat.le_refl _), Or.inl ⟨HN3.out.2 h, h'⟩⟩
        · cases e : a3 with
          | none => have := HN3.out.1 e; rw [this] at h; cases h
          | some x =>
            obtain ⟨rfl, hrow⟩ := HR3.out x e
            have hl := hrow.lt
            exact ⟨w2.heap.size, Nat.le_refl _, Or.inl (by omega), Or.inr ⟨rfl, hrow.below (below_trans (below_trans (below_trans (below_trans HB4.out HB5.out) HB6.out) HB7.out) HB8.out) hl, h'⟩⟩
      have g1 := HGW.out.1
      have g2 := HGW.out.2.1
      go_wp2_with (first | (go_at_call 26; go_in) | fail)
      refine (either_keep a1 a2 a3 a4 gW w0.heap.size w1.heap.size w3.heap.size w4.heap.size w1.heap.size w2.heap.size bit A B L W w8 (HC1.out.below (below_trans (below_trans (below_trans (below_trans (below_trans (below_trans HB2.out HB3.out) HB4.out) HB5.out) HB6.out) HB7.out) HB8.out) (Nat.le_refl _)) (HC4.out.below (below_trans (below_trans (below_trans HB5.out HB6.out) HB7.out) HB8.out) (Nat.le_refl _)) (HC2.out.below (below_trans (below_trans (below_trans (below_trans (below_trans HB3.out HB4.out) HB5.out) HB6.out) HB7.out) HB8.out) (Nat.le_refl _)) (by omega) (by omega) (by omega) (by omega) (by omega) (by omega) (by omega) (by omega) hb HWB.out HLc2.out HGW.out.2.2).mono ?_
      rintro _ w9 ⟨aF, cF, aG, cG, aV, cV, F, G, V, rfl, hcF, hcG, hcV, hgr, hk⟩
      have HF := hide hcF
      have HG := hide hcG
      have HV := hide hcV
      have HGR := hide hgr
      have HK := hide hk
      have s9 := hgr.size
      have HK5 := hide ((grown_keep (HC5.out.below (below_trans (below_trans HB6.out HB7.out) HB8.out) (Nat.le_refl _)) hgr (by omega) (by omega)).wide (Nat.zero_le _) (show w5.heap.size ≤ w9.heap.size by omega))
      have HK6 := hide ((grown_keep (HC6.out.below (below_trans HB7.out HB8.out) (Nat.le_refl _)) hgr (by omega) (by omega)).wide (Nat.zero_le _) (show w6.heap.size ≤ w9.heap.size by omega))
      have HK7 := hide ((grown_keep (HC7.out.below HB8.out (Nat.le_refl _)) hgr (by omega) (by omega)).wide (Nat.zero_le _) (show w7.heap.size ≤ w9.heap.size by omega))
      have HK8 := hide ((grown_keep HC8.out hgr (by omega) (by omega)).wide (Nat.zero_le _) (show w8.heap.size ≤ w9.heap.size by omega))
      have HB09 := hide ((below_trans (below_trans (below_trans (below_trans (below_trans (below_trans (below_trans HB1.out HB2.out) HB3.out) HB4.out) HB5.out) HB6.out) HB7.out) HB8.out).grown hgr (by omega) (fun k hk => by cases hk; omega))
      have i2 : a2.isNone = aL.isNone := isNone_iff HN2.out
      have i3 : a3.isNone = aW.isNone := isNone_iff HN3.out
      have i6 : a6.isNone = aL.isNone := (isNone_iff HN6.out).trans (isNone_iff HN2.out)
      have i7 : a7.isNone = aW.isNone := (isNone_iff HN7.out).trans (isNone_iff HN3.out)
      rw [hLi] at i2 i6
      rw [hWi] at i3 i7
      clear hcF hcG hcV hgr hk HGW g1 g2 HLc2 HC1 HC2 HC3 HC4 HC5 HC6 HC7 HC8 HR1 HR2 HR3 HR4 HR5 HR6 HR7 HR8 HB1 HB2 HB3 HB4 HB5 HB6 HB7 HB8 HN1 HN2 HN3 HN4 HN5 HN6 HN7 HN8 HA HL HW HBB
      have hFl := HK.out.lenF
      go_wp2_with fail
      refine (F25 a5 aF _ cF _ _ _ _ A F w9 HK5.out HF.out (Nat.le_refl _) (Nat.le_refl _) (by omega) (by omega)).mono ?_
      rintro _ w10 ⟨hb10, ⟨_, rfl, _⟩ | ⟨hno, _⟩⟩
      case inr => exact absurd HK.out.embA hno
      have HBa := hide hb10
      have s10 := hb10.size
      clear hb10
      go_wp2_with fail
      refine (F25 a8 aF _ cF _ _ _ _ B F w10 (HK8.out.below HBa.out (Nat.le_refl _)) (HF.out.below HBa.out (Nat.le_refl _)) (by omega) (by omega) (by omega) (by omega)).mono ?_
      rintro _ w11 ⟨hb11, ⟨_, rfl, _⟩ | ⟨hno, _⟩⟩
      case inr => exact absurd HK.out.embB hno
      have HBb := hide (below_trans HBa.out hb11)
      have s11 := hb11.size
      clear hb11
      have HG11 := hide (HG.out.below HBb.out (Nat.le_refl _))
      have HV11 := hide (HV.out.below HBb.out (Nat.le_refl _))
      have H611 := hide (HK6.out.below HBb.out (Nat.le_refl _))
      have H711 := hide (HK7.out.below HBb.out (Nat.le_refl _))
      have HFIN := hide (HB09.out.trans (HBb.out.mono (by omega)))
      clear HF HG HV HK5 HK6 HK7 HK8 HBa HBb HB09 HGR
      have hGl : G.length ≤ 140000 := by
        rcases HK.out.lenG with ⟨_, _, h⟩ | h
        · rw [h]; simp
        · omega
      have hlenG : (aG.isNone = true ∧ a2.isNone = true) ∨ ((G.length : Int) != (F.length : Int)) = false := by
        rcases HK.out.lenG with ⟨h, h', _⟩ | h
        · rw [h, h']; exact Or.inl ⟨rfl, rfl⟩
        · exact Or.inr (by simp; omega)
      have hfew := HK.out.few
      have hfew2 : Ef.falses G ≤ A.length := by
        cases e : a2 with
        | none => rw [e] at hfew; exact hfew
        | some x => rw [e] at i2; cases i2
      clear hfew
      cases hGi : aG.isNone
      all_goals
        have hGb : ((G.length : Int) != (F.length : Int)) = false ∨ (aG.isNone = true ∧ a2.isNone = true) := hlenG.symm
        rw [hGi, i2] at hGb
        first
        | (have hGb' : ((G.length : Int) != (F.length : Int)) = false := by simpa using hGb)
        | skip
        clear hlenG hGb
        go_wp2_with fail
        refine (F30 aG _ _ _ G _ HG11.out (by omega)).mono ?_
        rintro _ w' ⟨rfl, hw'⟩
        subst w'
        have h3 : a3 ≠ none := by intro e; rw [e] at i3; cases i3
        obtain ⟨hv1, hv2, hv3⟩ := HK.out.someW h3
        have hVn : aV.isNone = false := by cases e : aV with | none => exact absurd e hv1 | some x => rfl
        have hVb : ((V.length : Int) != (F.length : Int)) = false := by simp; omega
        have hVl : V.length ≤ 140000 := by omega
        have HOV := hide hv3
        have HVF := hide HK.out.fits
        have HOB : Hid (bits .or .u64 (Ef.orAll W : Int) (bit : Int) = ((Ef.orAll W ||| bit : Nat) : Int)) := u64_or_nat _ _ (or_lt W HWB.out) hb
        clear h3 hv1 hv2 hv3
        go_wp2_with fail
        refine (F31 a7 _ _ _ W _ H711.out (by omega) HWB.out).mono ?_
        rintro _ w' ⟨rfl, hw'⟩
        subst w'
        by_cases hB0 : 0 < B.length
        · have HO2 : Hid (Ef.orAll V = Ef.orAll W ||| bit) := by rw [HOV.out]; unfold wantOf; rw [if_pos hB0]; rfl
          go_wp2_with fail
          refine (F31 aV _ _ _ V _ HV11.out (by omega) HVF.out).mono ?_
          rintro _ w' ⟨rfl, hw'⟩
          subst w'
          rw [HO2.out, HOB.out]
          go_wp2_with fail
          go_ret
          exact ⟨by simp, HFIN.out⟩
        · have HO2 : Hid (Ef.orAll V = Ef.orAll W) := by rw [HOV.out]; unfold wantOf; rw [if_neg hB0]; rfl
          go_wp2_with fail
          refine (F31 aV _ _ _ V _ HV11.out (by omega) HVF.out).mono ?_
          rintro _ w' ⟨rfl, hw'⟩
          subst w'
          rw [HO2.out]
          go_wp2_with fail
          go_ret
          exact ⟨by simp, HFIN.out⟩
  · rcases hWd with hWi | ⟨hWi, hWb⟩
    · skip
      go_wp2_with fail
      refine (F21 aA cA _ _ A _ (HA.out) (Nat.le_refl _) (by omega)).mono ?_
      rintro _ w1 ⟨a1, rfl, hn, hr, hb⟩
      have HN1 := hide hn
      have HR1 := hide hr
      have HC1 : Hid (CellsIn w1 w0.heap.size w1.heap.size a1 (strV A)) := clone_cells hr (none_of (HA.out) hn)
      have HB1 := hide hb
      have s1 := hb.size
      clear hn hr hb
      go_wp2_with fail
      refine (F22 aL cL _ _ L _ (HL.out.below HB1.out (Nat.le_refl _)) (by omega) (by omega)).mono ?_
      rintro _ w2 ⟨a2, rfl, hn, hr, hb⟩
      have HN2 := hide hn
      have HR2 := hide hr
      have HC2 : Hid (CellsIn w2 w1.heap.size w2.heap.size a2 (blV L)) := clone_cells hr (none_of (HL.out.below HB1.out (Nat.le_refl _)) hn)
      have HB2 := hide hb
      have s2 := hb.size
      clear hn hr hb
      go_wp2_with fail
      refine (F23 aW cW _ _ W _ (HW.out.below (below_trans HB1.out HB2.out) (Nat.le_refl _)) (by omega) (by omega)).mono ?_
      rintro _ w3 ⟨a3, rfl, hn, hr, hb⟩
      have HN3 := hide hn
      have HR3 := hide hr
      have HC3 : Hid (CellsIn w3 w2.heap.size w3.heap.size a3 (wdV W)) := clone_cells hr (none_of (HW.out.below (below_trans HB1.out HB2.out) (Nat.le_refl _)) hn)
      have HB3 := hide hb
      have s3 := hb.size
      clear hn hr hb
      go_wp2_with fail
      refine (F21 aB cB _ _ B _ (HBB.out.below (below_trans (below_trans HB1.out HB2.out) HB3.out) (Nat.le_refl _)) (by omega) (by omega)).mono ?_
      rintro _ w4 ⟨a4, rfl, hn, hr, hb⟩
      have HN4 := hide hn
      have HR4 := hide hr
      have HC4 : Hid (CellsIn w4 w3.heap.size w4.heap.size a4 (strV B)) := clone_cells hr (none_of (HBB.out.below (below_trans (below_trans HB1.out HB2.out) HB3.out) (Nat.le_refl _)) hn)
      have HB4 := hide hb
      have s4 := hb.size
      clear hn hr hb
      go_wp2_with fail
      refine (F21 a1 _ _ _ A _ (HC1.out.below (below_trans (below_trans HB2.out HB3.out) HB4.out) (Nat.le_refl _)) (by omega) (by omega)).mono ?_
      rintro _ w5 ⟨a5, rfl, hn, hr, hb⟩
      have HN5 := hide hn
      have HR5 := hide hr
      have HC5 : Hid (CellsIn w5 w4.heap.size w5.heap.size a5 (strV A)) := clone_cells hr (none_of (HC1.out.below (below_trans (below_trans HB2.out HB3.out) HB4.out) (Nat.le_refl _)) hn)
      have HB5 := hide hb
      have s5 := hb.size
      clear hn hr hb
      go_wp2_with fail
      refine (F22 a2 _ _ _ L _ (HC2.out.below (below_trans (below_trans HB3.out HB4.out) HB5.out) (Nat.le_refl _)) (by omega) (by omega)).mono ?_
      rintro _ w6 ⟨a6, rfl, hn, hr, hb⟩
      have HN6 := hide hn
      have HR6 := hide hr
      have HC6 : Hid (CellsIn w6 w5.heap.size w6.heap.size a6 (blV L)) := clone_cells hr (none_of (HC2.out.below (below_trans (below_trans HB3.out HB4.out) HB5.out) (Nat.le_refl _)) hn)
      have HB6 := hide hb
      have s6 := hb.size
      clear hn hr hb
      go_wp2_with fail
      refine (F23 a3 _ _ _ W _ (HC3.out.below (below_trans (below_trans HB4.out HB5.out) HB6.out) (Nat.le_refl _)) (by omega) (by omega)).mono ?_
      rintro _ w7 ⟨a7, rfl, hn, hr, hb⟩
      have HN7 := hide hn
      have HR7 := hide hr
      have HC7 : Hid (CellsIn w7 w6.heap.size w7.heap.size a7 (wdV W)) := clone_cells hr (none_of (HC3.out.below (below_trans (below_trans HB4.out HB5.out) HB6.out) (Nat.le_refl _)) hn)
      have HB7 := hide hb
      have s7 := hb.size
      clear hn hr hb
      go_wp2_with fail
      refine (F21 a4 _ _ _ B _ (HC4.out.below (below_trans (below_trans HB5.out HB6.out) HB7.out) (Nat.le_refl _)) (by omega) (by omega)).mono ?_
      rintro _ w8 ⟨a8, rfl, hn, hr, hb⟩
      have HN8 := hide hn
      have HR8 := hide hr
      have HC8 : Hid (CellsIn w8 w7.heap.size w8.heap.size a8 (strV B)) := clone_cells hr (none_of (HC4.out.below (below_trans (below_trans HB5.out HB6.out) HB7.out) (Nat.le_refl _)) hn)
      have HB8 := hide hb
      have s8 := hb.size
      clear hn hr hb
      have HLc2 : Hid ((a2 = none ∧ L = []) ∨ (∃ ad, a2 = some ad) ∧ L.length = A.length) := by
        rcases HLcase.out with ⟨h, h'⟩ | ⟨⟨ad, h⟩, h'⟩
        · exact Or.inl ⟨HN2.out.2 h, h'⟩
        · refine Or.inr ⟨?_, h'⟩
          cases e : a2 with
          | none => have := HN2.out.1 e; rw [this] at h; cases h
          | some x => exact ⟨x, rfl⟩
      obtain ⟨gW, HGW⟩ : ∃ gW, Hid (w2.heap.size ≤ gW ∧ (gW < w4.heap.size ∨ w8.heap.size ≤ gW) ∧ ((a3 = none ∧ W = []) ∨ (a3 = some ⟨gW, 0, none⟩ ∧ RowV w8 gW 35 (wdV W) ∧ W.length = A.length))) := by
        rcases HWcase.out with ⟨h, h'⟩ | ⟨⟨ad, h⟩, h'⟩
        · exact ⟨w8.heap.size, by omega, Or.inr (Nat.le_refl _), Or.inl ⟨HN3.out.2 h, h'⟩⟩
        · cases e : a3 with
          | none => have := HN3.out.1 e; rw [this] at h; cases h
          | some x =>
            obtain ⟨rfl, hrow⟩ := HR3.out x e
            have hl := hrow.lt
            exact ⟨w2.heap.size, Nat.le_refl _, Or.inl (by omega), Or.inr ⟨rfl, hrow.below (below_trans (below_trans (below_trans (below_trans HB4.out HB5.out) HB6.out) HB7.out) HB8.out) hl, h'⟩⟩
      have g1 := HGW.out.1
      have g2 := HGW.out.2.1
      go_wp2_with (first | (go_at_call 26; go_in) | fail)
      refine (either_keep a1 a2 a3 a4 gW w0.heap.size w1.heap.size w3.heap.size w4.heap.size w1.heap.size w2.heap.size bit A B L W w8 (HC1.out.below (below_trans (below_trans (below_trans (below_trans (below_trans (below_trans HB2.out HB3.out) HB4.out) HB5.out) HB6.out) HB7.out) HB8.out) (Nat.le_refl _)) (HC4.out.below (below_trans (below_trans (below_trans HB5.out HB6.out) HB7.out) HB8.out) (Nat.le_refl _)) (HC2.out.below (below_trans (below_trans (below_trans (below_trans (below_trans HB3.out HB4.out) HB5.out) HB6.out) HB7.out) HB8.out) (Nat.le_refl _)) (by omega) (by omega) (by omega) (by omega) (by omega) (by omega) (by omega) (by omega) hb HWB.out HLc2.out HGW.out.2.2).mono ?_
      rintro _ w9 ⟨aF, cF, aG, cG, aV, cV, F, G, V, rfl, hcF, hcG, hcV, hgr, hk⟩
      have HF := hide hcF
      have HG := hide hcG
      have HV := hide hcV
      have HGR := hide hgr
      have HK := hide hk
      have s9 := hgr.size
      have HK5 := hide ((grown_keep (HC5.out.below (below_trans (below_trans HB6.out HB7.out) HB8.out) (Nat.le_refl _)) hgr (by omega) (by omega)).wide (Nat.zero_le _) (show w5.heap.size ≤ w9.heap.size by omega))
      have HK6 := hide ((grown_keep (HC6.out.below (below_trans HB7.out HB8.out) (Nat.le_refl _)) hgr (by omega) (by omega)).wide (Nat.zero_le _) (show w6.heap.size ≤ w9.heap.size by omega))
      have HK7 := hide ((grown_keep (HC7.out.below HB8.out (Nat.le_refl _)) hgr (by omega) (by omega)).wide (Nat.zero_le _) (show w7.heap.size ≤ w9.heap.size by omega))
      have HK8 := hide ((grown_keep HC8.out hgr (by omega) (by omega)).wide (Nat.zero_le _) (show w8.heap.size ≤ w9.heap.size by omega))
      have HB09 := hide ((below_trans (below_trans (below_trans (below_trans (below_trans (below_trans (below_trans HB1.out HB2.out) HB3.out) HB4.out) HB5.out) HB6.out) HB7.out) HB8.out).grown hgr (by omega) (fun k hk => by cases hk; omega))
      have i2 : a2.isNone = aL.isNone := isNone_iff HN2.out
      have i3 : a3.isNone = aW.isNone := isNone_iff HN3.out
      have i6 : a6.isNone = aL.isNone := (isNone_iff HN6.out).trans (isNone_iff HN2.out)
      have i7 : a7.isNone = aW.isNone := (isNone_iff HN7.out).trans (isNone_iff HN3.out)
      rw [hLi] at i2 i6
      rw [hWi] at i3 i7
      clear hcF hcG hcV hgr hk HGW g1 g2 HLc2 HC1 HC2 HC3 HC4 HC5 HC6 HC7 HC8 HR1 HR2 HR3 HR4 HR5 HR6 HR7 HR8 HB1 HB2 HB3 HB4 HB5 HB6 HB7 HB8 HN1 HN2 HN3 HN4 HN5 HN6 HN7 HN8 HA HL HW HBB
      have hFl := HK.out.lenF
      go_wp2_with fail
      refine (F25 a5 aF _ cF _ _ _ _ A F w9 HK5.out HF.out (Nat.le_refl _) (Nat.le_refl _) (by omega) (by omega)).mono ?_
      rintro _ w10 ⟨hb10, ⟨_, rfl, _⟩ | ⟨hno, _⟩⟩
      case inr => exact absurd HK.out.embA hno
      have HBa := hide hb10
      have s10 := hb10.size
      clear hb10
      go_wp2_with fail
      refine (F25 a8 aF _ cF _ _ _ _ B F w10 (HK8.out.below HBa.out (Nat.le_refl _)) (HF.out.below HBa.out (Nat.le_refl _)) (by omega) (by omega) (by omega) (by omega)).mono ?_
      rintro _ w11 ⟨hb11, ⟨_, rfl, _⟩ | ⟨hno, _⟩⟩
      case inr => exact absurd HK.out.embB hno
      have HBb := hide (below_trans HBa.out hb11)
      have s11 := hb11.size
      clear hb11
      have HG11 := hide (HG.out.below HBb.out (Nat.le_refl _))
      have HV11 := hide (HV.out.below HBb.out (Nat.le_refl _))
      have H611 := hide (HK6.out.below HBb.out (Nat.le_refl _))
      have H711 := hide (HK7.out.below HBb.out (Nat.le_refl _))
      have HFIN := hide (HB09.out.trans (HBb.out.mono (by omega)))
      clear HF HG HV HK5 HK6 HK7 HK8 HBa HBb HB09 HGR
      have hGl : G.length ≤ 140000 := by
        rcases HK.out.lenG with ⟨_, _, h⟩ | h
        · rw [h]; simp
        · omega
      have hlenG : (aG.isNone = true ∧ a2.isNone = true) ∨ ((G.length : Int) != (F.length : Int)) = false := by
        rcases HK.out.lenG with ⟨h, h', _⟩ | h
        · rw [h, h']; exact Or.inl ⟨rfl, rfl⟩
        · exact Or.inr (by simp; omega)
      have hfew := HK.out.few
      have hfew2 : Ef.falses G ≤ Ef.falses L := by
        cases e : a2 with
        | none => rw [e] at i2; cases i2
        | some x => rw [e] at hfew; exact hfew
      clear hfew
      cases hGi : aG.isNone
      all_goals
        have hGb : ((G.length : Int) != (F.length : Int)) = false ∨ (aG.isNone = true ∧ a2.isNone = true) := hlenG.symm
        rw [hGi, i2] at hGb
        first
        | (have hGb' : ((G.length : Int) != (F.length : Int)) = false := by simpa using hGb)
        | skip
        clear hlenG hGb
        go_wp2_with fail
        refine (F30 a6 _ _ _ L _ H611.out (by omega)).mono ?_
        rintro _ w' ⟨rfl, hw'⟩
        subst w'
        go_wp2_with fail
        refine (F30 aG _ _ _ G _ HG11.out (by omega)).mono ?_
        rintro _ w' ⟨rfl, hw'⟩
        subst w'
        have hVn : aV.isNone = true := by
          have h3 : a3 = none := by cases e : a3 with | none => rfl | some x => rw [e] at i3; cases i3
          rw [(HK.out.nilW h3).1]; rfl
        go_wp2_with fail
        go_ret
        exact ⟨rfl, HFIN.out⟩
    · skip
      go_wp2_with fail
      refine (F21 aA cA _ _ A _ (HA.out) (Nat.le_refl _) (by omega)).mono ?_
      rintro _ w1 ⟨a1, rfl, hn, hr, hb⟩
      have HN1 := hide hn
      have HR1 := hide hr
      have HC1 : Hid (CellsIn w1 w0.heap.size w1.heap.size a1 (strV A)) := clone_cells hr (none_of (HA.out) hn)
      have HB1 := hide hb
      have s1 := hb.size
      clear hn hr hb
      go_wp2_with fail
      refine (F22 aL cL _ _ L _ (HL.out.below HB1.out (Nat.le_refl _)) (by omega) (by omega)).mono ?_
      rintro _ w2 ⟨a2, rfl, hn, hr, hb⟩
      have HN2 := hide hn
      have HR2 := hide hr
      have HC2 : Hid (CellsIn w2 w1.heap.size w2.heap.size a2 (blV L)) := clone_cells hr (none_of (HL.out.below HB1.out (Nat.le_refl _)) hn)
      have HB2 := hide hb
      have s2 := hb.size
      clear hn hr hb
      go_wp2_with fail
      refine (F23 aW cW _ _ W _ (HW.out.below (below_trans HB1.out HB2.out) (Nat.le_refl _)) (by omega) (by omega)).mono ?_
      rintro _ w3 ⟨a3, rfl, hn, hr, hb⟩
      have HN3 := hide hn
      have HR3 := hide hr
      have HC3 : Hid (CellsIn w3 w2.heap.size w3.heap.size a3 (wdV W)) := clone_cells hr (none_of (HW.out.below (below_trans HB1.out HB2.out) (Nat.le_refl _)) hn)
      have HB3 := hide hb
      have s3 := hb.size
      clear hn hr hb
      go_wp2_with fail
      refine (F21 aB cB _ _ B _ (HBB.out.below (below_trans (below_trans HB1.out HB2.out) HB3.out) (Nat.le_refl _)) (by omega) (by omega)).mono ?_
      rintro _ w4 ⟨a4, rfl, hn, hr, hb⟩
      have HN4 := hide hn
      have HR4 := hide hr
      have HC4 : Hid (CellsIn w4 w3.heap.size w4.heap.size a4 (strV B)) := clone_cells hr (none_of (HBB.out.below (below_trans (below_trans HB1.out HB2.out) HB3.out) (Nat.le_refl _)) hn)
      have HB4 := hide hb
      have s4 := hb.size
      clear hn hr hb
      go_wp2_with fail
      refine (F21 a1 _ _ _ A _ (HC1.out.below (below_trans (below_trans HB2.out HB3.out) HB4.out) (Nat.le_refl _)) (by omega) (by omega)).mono ?_
      rintro _ w5 ⟨a5, rfl, hn, hr, hb⟩
      have HN5 := hide hn
      have HR5 := hide hr
      have HC5 : Hid (CellsIn w5 w4.heap.size w5.heap.size a5 (strV A)) := clone_cells hr (none_of (HC1.out.below (below_trans (below_trans HB2.out HB3.out) HB4.out) (Nat.le_refl _)) hn)
      have HB5 := hide hb
      have s5 := hb.size
      clear hn hr hb
      go_wp2_with fail
      refine (F22 a2 _ _ _ L _ (HC2.out.below (below_trans (below_trans HB3.out HB4.out) HB5.out) (Nat.le_refl _)) (by omega) (by omega)).mono ?_
      rintro _ w6 ⟨a6, rfl, hn, hr, hb⟩
      have HN6 := hide hn
      have HR6 := hide hr
      have HC6 : Hid (CellsIn w6 w5.heap.size w6.heap.size a6 (blV L)) := clone_cells hr (none_of (HC2.out.below (below_trans (below_trans HB3.out HB4.out) HB5.out) (Nat.le_refl _)) hn)
      have HB6 := hide hb
      have s6 := hb.size
      clear hn hr hb
      go_wp2_with fail
      refine (F23 a3 _ _ _ W _ (HC3.out.below (below_trans (below_trans HB4.out HB5.out) HB6.out) (Nat.le_refl _)) (by omega) (by omega)).mono ?_
      rintro _ w7 ⟨a7, rfl, hn, hr, hb⟩
      have HN7 := hide hn
      have HR7 := hide hr
      have HC7 : Hid (CellsIn w7 w6.heap.size w7.heap.size a7 (wdV W)) := clone_cells hr (none_of (HC3.out.below (below_trans (below_trans HB4.out HB5.out) HB6.out) (Nat.le_refl _)) hn)
      have HB7 := hide hb
      have s7 := hb.size
      clear hn hr hb
      go_wp2_with fail
      refine (F21 a4 _ _ _ B _ (HC4.out.below (below_trans (below_trans HB5.out HB6.out) HB7.out) (Nat.le_refl _)) (by omega) (by omega)).mono ?_
      rintro _ w8 ⟨a8, rfl, hn, hr, hb⟩
      have HN8 := hide hn
      have HR8 := hide hr
      have HC8 : Hid (CellsIn w8 w7.heap.size w8.heap.size a8 (strV B)) := clone_cells hr (none_of (HC4.out.below (below_trans (below_trans HB5.out HB6.out) HB7.out) (Nat.le_refl _)) hn)
      have HB8 := hide hb
      have s8 := hb.size
      clear hn hr hb
      have HLc2 : Hid ((a2 = none ∧ L = []) ∨ (∃ ad, a2 = some ad) ∧ L.length = A.length) := by
        rcases HLcase.out with ⟨h, h'⟩ | ⟨⟨ad, h⟩, h'⟩
        · exact Or.inl ⟨HN2.out.2 h, h'⟩
        · refine Or.inr ⟨?_, h'⟩
          cases e : a2 with
          | none => have := HN2.out.1 e; rw [this] at h; cases h
          | some x => exact ⟨x, rfl⟩
      obtain ⟨gW, HGW⟩ : ∃ gW, Hid (w2.heap.size ≤ gW ∧ (gW < w4.heap.size ∨ w8.heap.size ≤ gW) ∧ ((a3 = none ∧ W = []) ∨ (a3 = some ⟨gW, 0, none⟩ ∧ RowV w8 gW 35 (wdV W) ∧ W.length = A.length))) := by
        rcases HWcase.out with ⟨h, h'⟩ | ⟨⟨ad, h⟩, h'⟩
        · exact ⟨w8.heap.size, by omega, Or.inr (Nat.le_refl _), Or.inl ⟨HN3.out.2 h, h'⟩⟩
        · cases e : a3 with
          | none => have := HN3.out.1 e; rw [this] at h; cases h
          | some x =>
            obtain ⟨rfl, hrow⟩ := HR3.out x e
            have hl := hrow.lt
            exact ⟨w2.heap.size, Nat.le_refl _, Or.inl (by omega), Or.inr ⟨rfl, hrow.below (below_trans (below_trans (below_trans (below_trans HB4.out HB5.out) HB6.out) HB7.out) HB8.out) hl, h'⟩⟩
      have g1 := HGW.out.1
      have g2 := HGW.out.2.1
      go_wp2_with (first | (go_at_call 26; go_in) | fail)
      refine (either_keep a1 a2 a3 a4 gW w0.heap.size w1.heap.size w3.heap.size w4.heap.size w1.heap.size w2.heap.size bit A B L W w8 (HC1.out.below (below_trans (below_trans (below_trans (below_trans (below_trans (below_trans HB2.out HB3.out) HB4.out) HB5.out) HB6.out) HB7.out) HB8.out) (Nat.le_refl _)) (HC4.out.below (below_trans (below_trans (below_trans HB5.out HB6.out) HB7.out) HB8.out) (Nat.le_refl _)) (HC2.out.below (below_trans (below_trans (below_trans (below_trans (below_trans HB3.out HB4.out) HB5.out) HB6.out) HB7.out) HB8.out) (Nat.le_refl _)) (by omega) (by omega) (by omega) (by omega) (by omega) (by omega) (by omega) (by omega) hb HWB.out HLc2.out HGW.out.2.2).mono ?_
      rintro _ w9 ⟨aF, cF, aG, cG, aV, cV, F, G, V, rfl, hcF, hcG, hcV, hgr, hk⟩
      have HF := hide hcF
      have HG := hide hcG
      have HV := hide hcV
      have HGR := hide hgr
      have HK := hide hk
      have s9 := hgr.size
      have HK5 := hide ((grown_keep (HC5.out.below (below_trans (below_trans HB6.out HB7.out) HB8.out) (Nat.le_refl _)) hgr (by omega) (by omega)).wide (Nat.zero_le _) (show w5.heap.size ≤ w9.heap.size by omega))
      have HK6 := hide ((grown_keep (HC6.out.below (below_trans HB7.out HB8.out) (Nat.le_refl _)) hgr (by omega) (by omega)).wide (Nat.zero_le _) (show w6.heap.size ≤ w9.heap.size by omega))
      have HK7 := hide ((grown_keep (HC7.out.below HB8.out (Nat.le_refl _)) hgr (by omega) (by omega)).wide (Nat.zero_le _) (show w7.heap.size ≤ w9.heap.size by omega))
      have HK8 := hide ((grown_keep HC8.out hgr (by omega) (by omega)).wide (Nat.zero_le _) (show w8.heap.size ≤ w9.heap.size by omega))
      have HB09 := hide ((below_trans (below_trans (below_trans (below_trans (below_trans (below_trans (below_trans HB1.out HB2.out) HB3.out) HB4.out) HB5.out) HB6.out) HB7.out) HB8.out).grown hgr (by omega) (fun k hk => by cases hk; omega))
      have i2 : a2.isNone = aL.isNone := isNone_iff HN2.out
      have i3 : a3.isNone = aW.isNone := isNone_iff HN3.out
      have i6 : a6.isNone = aL.isNone := (isNone_iff HN6.out).trans (isNone_iff HN2.out)
      have i7 : a7.isNone = aW.isNone := (isNone_iff HN7.out).trans (isNone_iff HN3.out)
      rw [hLi] at i2 i6
      rw [hWi] at i3 i7
      clear hcF hcG hcV hgr hk HGW g1 g2 HLc2 HC1 HC2 HC3 HC4 HC5 HC6 HC7 HC8 HR1 HR2 HR3 HR4 HR5 HR6 HR7 HR8 HB1 HB2 HB3 HB4 HB5 HB6 HB7 HB8 HN1 HN2 HN3 HN4 HN5 HN6 HN7 HN8 HA HL HW HBB
      have hFl := HK.out.lenF
      go_wp2_with fail
      refine (F25 a5 aF _ cF _ _ _ _ A F w9 HK5.out HF.out (Nat.le_refl _) (Nat.le_refl _) (by omega) (by omega)).mono ?_
      rintro _ w10 ⟨hb10, ⟨_, rfl, _⟩ | ⟨hno, _⟩⟩
      case inr => exact absurd HK.out.embA hno
      have HBa := hide hb10
      have s10 := hb10.size
      clear hb10
      go_wp2_with fail
      refine (F25 a8 aF _ cF _ _ _ _ B F w10 (HK8.out.below HBa.out (Nat.le_refl _)) (HF.out.below HBa.out (Nat.le_refl _)) (by omega) (by omega) (by omega) (by omega)).mono ?_
      rintro _ w11 ⟨hb11, ⟨_, rfl, _⟩ | ⟨hno, _⟩⟩
      case inr => exact absurd HK.out.embB hno
      have HBb := hide (below_trans HBa.out hb11)
      have s11 := hb11.size
      clear hb11
      have HG11 := hide (HG.out.below HBb.out (Nat.le_refl _))
      have HV11 := hide (HV.out.below HBb.out (Nat.le_refl _))
      have H611 := hide (HK6.out.below HBb.out (Nat.le_refl _))
      have H711 := hide (HK7.out.below HBb.out (Nat.le_refl _))
      have HFIN := hide (HB09.out.trans (HBb.out.mono (by omega)))
      clear HF HG HV HK5 HK6 HK7 HK8 HBa HBb HB09 HGR
      have hGl : G.length ≤ 140000 := by
        rcases HK.out.lenG with ⟨_, _, h⟩ | h
        · rw [h]; simp
        · omega
      have hlenG : (aG.isNone = true ∧ a2.isNone = true) ∨ ((G.length : Int) != (F.length : Int)) = false := by
        rcases HK.out.lenG with ⟨h, h', _⟩ | h
        · rw [h, h']; exact Or.inl ⟨rfl, rfl⟩
        · exact Or.inr (by simp; omega)
      have hfew := HK.out.few
      have hfew2 : Ef.falses G ≤ Ef.falses L := by
        cases e : a2 with
        | none => rw [e] at i2; cases i2
        | some x => rw [e] at hfew; exact hfew
      clear hfew
      cases hGi : aG.isNone
      all_goals
        have hGb : ((G.length : Int) != (F.length : Int)) = false ∨ (aG.isNone = true ∧ a2.isNone = true) := hlenG.symm
        rw [hGi, i2] at hGb
        first
        | (have hGb' : ((G.length : Int) != (F.length : Int)) = false := by simpa using hGb)
        | skip
        clear hlenG hGb
        go_wp2_with fail
        refine (F30 a6 _ _ _ L _ H611.out (by omega)).mono ?_
        rintro _ w' ⟨rfl, hw'⟩
        subst w'
        go_wp2_with fail
        refine (F30 aG _ _ _ G _ HG11.out (by omega)).mono ?_
        rintro _ w' ⟨rfl, hw'⟩
        subst w'
        have h3 : a3 ≠ none := by intro e; rw [e] at i3; cases i3
        obtain ⟨hv1, hv2, hv3⟩ := HK.out.someW h3
        have hVn : aV.isNone = false := by cases e : aV with | none => exact absurd e hv1 | some x => rfl
        have hVb : ((V.length : Int) != (F.length : Int)) = false := by simp; omega
        have hVl : V.length ≤ 140000 := by omega
        have HOV := hide hv3
        have HVF := hide HK.out.fits
        have HOB : Hid (bits .or .u64 (Ef.orAll W : Int) (bit : Int) = ((Ef.orAll W ||| bit : Nat) : Int)) := u64_or_nat _ _ (or_lt W HWB.out) hb
        clear h3 hv1 hv2 hv3
        go_wp2_with fail
        refine (F31 a7 _ _ _ W _ H711.out (by omega) HWB.out).mono ?_
        rintro _ w' ⟨rfl, hw'⟩
        subst w'
        by_cases hB0 : 0 < B.length
        · have HO2 : Hid (Ef.orAll V = Ef.orAll W ||| bit) := by rw [HOV.out]; unfold wantOf; rw [if_pos hB0]; rfl
          go_wp2_with fail
          refine (F31 aV _ _ _ V _ HV11.out (by omega) HVF.out).mono ?_
          rintro _ w' ⟨rfl, hw'⟩
          subst w'
          rw [HO2.out, HOB.out]
          go_wp2_with fail
          go_ret
          exact ⟨by simp, HFIN.out⟩
        · have HO2 : Hid (Ef.orAll V = Ef.orAll W) := by rw [HOV.out]; unfold wantOf; rw [if_neg hB0]; rfl
          go_wp2_with fail
          refine (F31 aV _ _ _ V _ HV11.out (by omega) HVF.out).mono ?_
          rintro _ w' ⟨rfl, hw'⟩
          subst w'
          rw [HO2.out]
          go_wp2_with fail
          go_ret
          exact ⟨by simp, HFIN.out⟩
end Go.Proofs.Qxb6601135a
