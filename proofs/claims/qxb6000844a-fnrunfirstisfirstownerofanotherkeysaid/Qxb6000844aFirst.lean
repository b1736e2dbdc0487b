/-
  (*run).first on a fresh run.
-/
import Derived.Test.Qxb6000844aMem
import Derived.Test.Qxb6000844aRPlain
import Derived.Deep.Cut
namespace Go.Proofs.Qxb6000844a
open Go.ChangeShapes Go.WideShapes Go.ChangeAt Go.RowKit
set_option linter.unusedVariables false

theorem below_set {B : Nat} {w w' : World} (h : Below B w w') (g i : Nat) (v : Value) (hg : B ≤ g) : Below B w (w'.setCell ⟨g, i, none⟩ v) := h.setCell hg v
theorem ret_int {a b : Int} (h : a = b) : Ending.returned (.int .i64 a) = .returned (.int .i64 b) := by rw [h]
theorem row_set (z v : Value) (X : List Value) (i : Nat) : (zrow z (i + 1) ++ X).set i v = zrow z i ++ (v :: X) := by
  have h : zrow z (i + 1) = zrow z i ++ [z] := by unfold zrow; rw [List.replicate_succ']
  rw [h, List.append_assoc, List.set_append_right _ _ (by rw [zrow_len]; exact Nat.le_refl _), zrow_len, Nat.sub_self]
  rfl
theorem row_set2 (z v u : Value) (X : List Value) (i : Nat) : (zrow z i ++ (v :: X)).set i u = zrow z i ++ (u :: X) := by
  rw [List.set_append_right _ _ (by rw [zrow_len]; exact Nat.le_refl _), zrow_len, Nat.sub_self]
  rfl
theorem row_get (z v : Value) (X : List Value) (i : Nat) : (zrow z i ++ (v :: X))[i]? = some v := by
  rw [List.getElem?_append_right (by rw [zrow_len]; exact Nat.le_refl _), zrow_len, Nat.sub_self]
  rfl
theorem drop_at {α : Type} (l : List α) (k : Nat) (x : α) (h : l[k]? = some x) : l.drop k = x :: l.drop (k + 1) := by
  have hl : k < l.length := by
    rcases Nat.lt_or_ge k l.length with h' | h'
    · exact h'
    · rw [List.getElem?_eq_none h'] at h; cases h
  rw [List.drop_eq_getElem_cons hl]
  rw [List.getElem?_eq_getElem hl] at h
  cases h
  rfl
/-- The table of which all but the first k cells are laid. -/
def tab (K : List ByteArray) (k : Nat) : List Value := zrow (.int .i64 0) k ++ izV (Rf.nx (K.drop k) (k : Int))
theorem tab_start (K : List ByteArray) (m : Nat) (h : K.length = m + 1) : (zrow (.int .i64 0) K.length).set m (.int .i64 (K.length : Int)) = tab K m := by
  obtain ⟨x, hx⟩ := at_some K m (by omega)
  have h1 := row_set (.int .i64 0) (.int .i64 (K.length : Int)) [] m
  unfold tab
  rw [List.append_nil] at h1
  rw [h] at h1 ⊢
  rw [h1, drop_at K m x hx, List.drop_of_length_le (by omega), Rf.nx_one]
  simp [izV]
theorem tab_step (K : List ByteArray) (i : Nat) (x y : ByteArray) (hx : K[i]? = some x) (hy : K[i + 1]? = some y) :
    ∃ (h : Int) (t : List Int), tab K (i + 1) = zrow (.int .i64 0) (i + 1) ++ izV (h :: t) ∧ (y = x → (tab K (i + 1)).set i (.int .i64 h) = tab K i) ∧ (y ≠ x → ((tab K (i + 1)).set i (.int .i64 h)).set i (.int .i64 (((i + 1 : Nat) : Int))) = tab K i) := by
  have hd := drop_at K (i + 1) y hy
  have hd0 := drop_at K i x hx
  obtain ⟨t, ht⟩ := Rf.nx_head (K.drop (i + 1 + 1)) y ((i + 1 : Nat) : Int)
  refine ⟨((i + 1 : Nat) : Int) + 1 + (((K.drop (i + 1 + 1)).takeWhile (fun z => decide (z = y))).length : Nat), t, ?_, ?_, ?_⟩
  · unfold tab; rw [hd, ht]
  · intro e
    unfold tab
    rw [row_set, hd0, hd, Rf.nx_cons, if_pos e, show ((i : Int) + 1) = ((i + 1 : Nat) : Int) by omega, ht]
    rfl
  · intro e
    unfold tab
    rw [row_set, row_set2, hd0, hd, Rf.nx_cons, if_neg e, show ((i : Int) + 1) = ((i + 1 : Nat) : Int) by omega]
    rfl
theorem nx_len : ∀ (K : List ByteArray) (j : Int), (Rf.nx K j).length = K.length
  | [], _ => rfl
  | [_], _ => rfl
  | x :: y :: r, j => by rw [Rf.nx_cons, List.length_cons, nx_len (y :: r) (j + 1)]; rfl
theorem tab_len (K : List ByteArray) (k : Nat) (h : k ≤ K.length) : (tab K k).length = K.length := by
  unfold tab; rw [List.length_append, zrow_len, izV_len, nx_len, List.length_drop]; omega
theorem tab_zero (K : List ByteArray) (x : ByteArray) (h : K[0]? = some x) : (tab K 0)[0]? = some (.int .i64 ((Rf.at_ K x : Nat) : Int)) := by
  have hd := drop_at K 0 x h
  rw [List.drop_zero] at hd
  obtain ⟨t, ht⟩ := Rf.nx_head (K.drop 1) x (0 : Int)
  have e : tab K 0 = izV (Rf.nx K 0) := by unfold tab zrow; simp
  have ha : ((Rf.at_ K x : Nat) : Int) = 0 + 1 + (((K.drop 1).takeWhile (fun y => decide (y = x))).length : Nat) := by
    rw [hd, Rf.at_eq]; simp
  rw [e, ha]
  apply izV_get
  have h3 : Rf.nx (x :: K.drop 1) 0 = Rf.nx K 0 := congrArg (fun l => Rf.nx l 0) hd.symm
  rw [← h3, ht]
  rfl

set_option maxHeartbeats 1000000 in
set_option maxRecDepth 100000 in
theorem F20 (aK aO : Option Addr) (gR cK cO l1 h1 l2 h2 : Nat) (K : List ByteArray) (O : List Int) (key : ByteArray) (w : World)
    (hK : CellsIn w l1 h1 aK (strV K)) (hO : CellsIn w l2 h2 aO (izV O)) (b1 : h1 ≤ gR) (b2 : h2 ≤ gR)
    (hR : RowV w gR 39 [.slice aK K.length cK, .slice aO O.length cO, .slice none 0 0]) (n1 : K.length ≤ 131072) (n2 : O.length ≤ 131072) (hn : K.length ≤ O.length) :
    Calls Try.prog 20 #[.pointer (some ⟨gR, 0, none⟩), .string key] w fun e w' => e = .returned (.int .i64 (Rf.ans K O key)) ∧ Below gR w w' := by
  have hc0 := hR.cell 0 _ rfl
  have hc1 := hR.cell 1 _ rfl
  have hc2 := hR.cell 2 _ rfl
  have hf2 := hR.frozen 2
  have hlr := hR.lt
  have HK := hide hK
  have HO := hide hO
  have HR := hide hR
  clear hK hO hR
  have hnl := fun (wx : World) (a : Option Addr) (n c : Nat) => Lib.run_eql_slice_nil (P := Try.prog) wx 29 3 a n c 0 0 Try.underlying29
  rcases Nat.eq_zero_or_pos K.length with h0 | hpos
  · obtain rfl := List.eq_nil_of_length_eq_zero h0
    clear h0
    go_enter Try.func20, Try.ntmps20
    go_wp2_with fail
    go_ret
    exact ⟨rfl, Below.refl _ _⟩
  have hmk := make_run 29 3 (.int .i64 0) 8 Try.underlying29 Try.info3 rfl K.length (by omega) (by omega)
  go_enter Try.func20, Try.ntmps20
  go_upto_region 6 with fail
  obtain ⟨w1, hE⟩ : ∃ w1, w1 = ((w.setCell ⟨gR, 2, none⟩ (.slice (some ⟨w.heap.size, 0, none⟩) K.length K.length)).alloc (.cells (zrow (.int .i64 0) K.length).toArray 3)) := ⟨_, rfl⟩
  rw [← hE]
  have HR1 : Hid (RowV w1 gR 39 [.slice aK K.length cK, .slice aO O.length cO, .slice (some ⟨w.heap.size, 0, none⟩) K.length K.length]) := by rw [hE]; exact (HR.out.set 2 _).alloc _
  have HN1 : Hid (RowV w1 w.heap.size 3 (zrow (.int .i64 0) K.length)) := by
    have h := RowV.fresh (w.setCell ⟨gR, 2, none⟩ (.slice (some ⟨w.heap.size, 0, none⟩) K.length K.length)) 3 (zrow (.int .i64 0) K.length)
    rw [World.size_setCell, ← hE] at h
    exact h
  have HB1 : Hid (Below gR w w1) := by rw [hE]; exact (below_set (Below.refl _ _) gR 2 _ (Nat.le_refl _)).alloc (by rw [World.size_setCell]; omega) _
  clear hE hc0 hc1 hc2 hf2 HR
  obtain ⟨m, hm⟩ : ∃ m, K.length = m + 1 := ⟨K.length - 1, by omega⟩
  have HM := hide hm
  have hmI : (K.length : Int) - 1 = (m : Int) := by omega
  have hml : m < K.length := by omega
  have hr2 := HR1.out.cell 2 _ rfl
  have hcm := HN1.out.cell m _ (zrow_get _ _ _ hml)
  have hfm := HN1.out.frozen m
  have HT := hide (tab_start K m hm)
  clear hm
  go_wp2_with fail
  go_loopw [6] (fun kv wr => ∃ (k : Nat) (z : Int), k < K.length ∧ z + 1 = k ∧ kv = .int .i64 z ∧ RowV wr w.heap.size 3 (tab K k) ∧ RowV wr gR 39 [.slice aK K.length cK, .slice aO O.length cO, .slice (some ⟨w.heap.size, 0, none⟩) K.length K.length] ∧ Below gR w wr) (fun kv _ => (intOf kv + 1).toNat)
  case atStart => exact ⟨m, _, hml, by omega, rfl, by rw [← HT.out]; exact HN1.out.set _ _, HR1.out.other ⟨w.heap.size, m, none⟩ _ (by show gR ≠ w.heap.size; omega), below_set HB1.out w.heap.size m _ (by omega)⟩
  case round =>
    obtain ⟨k, z, hk, hz, rfl, hN, hR, hB⟩ := hrel
    have HN := hide hN
    have HR := hide hR
    have HB := hide hB
    have hr0 := hR.cell 0 _ rfl
    have hr2 := hR.cell 2 _ rfl
    clear hN hR hB HR1 HN1 HB1 hcm hfm
    cases k with
    | succ i =>
      obtain rfl : z = (i : Int) := by omega
      clear hz
      obtain ⟨x, hx⟩ := at_some K i (by omega)
      obtain ⟨y, hy⟩ := at_some K (i + 1) hk
      obtain ⟨h, t, ht, he, hne⟩ := tab_step K i x y hx hy
      have HE := hide he
      have HNE := hide hne
      obtain ⟨j, hj⟩ : ∃ j, j = i + 1 := ⟨_, rfl⟩
      have HJ := hide hj
      have hjI : (i : Int) + 1 = (j : Int) := by omega
      have hjl : j < K.length := by omega
      have hil : i < K.length := by omega
      have hci : wr.cell? ⟨w.heap.size, i, none⟩ = some (.int .i64 0) := HN.out.cell i _ (by rw [ht]; rw [List.getElem?_append_left (by rw [zrow_len]; omega)]; exact zrow_get _ _ _ (by omega))
      have hfi := HN.out.frozen i
      have hcj : wr.cell? ⟨w.heap.size, j, none⟩ = some (.int .i64 h) := by rw [hj]; exact HN.out.cell (i + 1) _ (by rw [ht]; exact row_get _ _ _ _)
      obtain ⟨gk, ok, rfl, hg1, hg2, _⟩ := HK.out i _ (strV_get K i x hx)
      have hx1 := HK.out i _ (strV_get K i x hx)
      have HX := hide hx
      have HY := hide hy
      have HTL : Hid ((tab K (i + 1)).length = K.length) := tab_len K (i + 1) (by omega)
      clear hx1 hx hy ht he hne hj hk
      go_wp2_with fail
      go_region
      obtain ⟨w2, hE2⟩ : ∃ w2, w2 = (wr.setCell ⟨w.heap.size, i, none⟩ (.int .i64 h)).drew := ⟨_, rfl⟩
      rw [← hE2]
      have HN2 : Hid (RowV w2 w.heap.size 3 ((tab K (i + 1)).set i (.int .i64 h))) := by rw [hE2]; exact HN.out.set i _
      have HR2 : Hid (RowV w2 gR 39 [.slice (some ⟨gk, ok, none⟩) K.length cK, .slice aO O.length cO, .slice (some ⟨w.heap.size, 0, none⟩) K.length K.length]) := by rw [hE2]; exact HR.out.other ⟨w.heap.size, i, none⟩ _ (by show gR ≠ w.heap.size; omega)
      have HB2 : Hid (Below gR w w2) := by rw [hE2]; exact (below_set HB.out w.heap.size i _ (by omega)).drew
      clear hE2 hci hfi hcj hr0 hr2 HN HR HB
      have hr0 := HR2.out.cell 0 _ rfl
      have hr2 := HR2.out.cell 2 _ rfl
      have hci : w2.cell? ⟨w.heap.size, i, none⟩ = some (.int .i64 h) := HN2.out.cell i _ (by rw [List.getElem?_set_self (by rw [HTL.out]; omega)])
      have hfi := HN2.out.frozen i
      have hcx : w2.cell? ⟨gk, ok + i, none⟩ = some (.string x) := by
        obtain ⟨g', o', he', _, _, hc'⟩ := (HK.out.below HB2.out b1) i _ (strV_get K i x HX.out)
        cases he'; exact hc'
      have hcy : w2.cell? ⟨gk, ok + j, none⟩ = some (.string y) := by
        obtain ⟨g', o', he', _, _, hc'⟩ := (HK.out.below HB2.out b1) j _ (strV_get K j y (by rw [HJ.out]; exact HY.out))
        cases he'; exact hc'
      by_cases hxy : y = x
      · have HEX : Hid ((tab K (i + 1)).set i (.int .i64 h) = tab K i) := HE.out hxy
        clear HE HNE
        subst hxy
        go_wp2_with fail
        go_quiet (fail)
        go_wp2_with fail
        go_roundw
        case rel =>
          exact ⟨i, (i : Int) - 1, by omega, by omega, rfl, by rw [← HEX.out]; exact HN2.out, HR2.out, below_drewN HB2.out _⟩
        case measure => (simp [intOf]; try omega)
      · have hne : (y.toList == x.toList) = false := by simp [toList_eq_iff, hxy]
        have HNX : Hid (((tab K (i + 1)).set i (.int .i64 h)).set i (.int .i64 (j : Int)) = tab K i) := by rw [HJ.out]; exact HNE.out hxy
        clear hxy HE HNE
        go_wp2_with fail
        go_quiet (fail)
        go_wp2_with fail
        go_roundw
        case rel =>
          exact ⟨i, (i : Int) - 1, by omega, by omega, rfl, by rw [← HNX.out]; exact HN2.out.set i _, HR2.out.other ⟨w.heap.size, i, none⟩ _ (by show gR ≠ w.heap.size; omega), below_set (below_drewN HB2.out _) w.heap.size i _ (by omega)⟩
        case measure => (simp [intOf]; try omega)
    | zero =>
      obtain rfl : z = -1 := by omega
      clear hz hk
      obtain ⟨x0, hx0⟩ := at_some K 0 hpos
      obtain ⟨gk, ok, rfl, _, _, hck⟩ := (HK.out.below HB.out b1) 0 _ (strV_get K 0 x0 hx0)
      rw [Nat.add_zero] at hck
      have hcn := HN.out.cell 0 _ (tab_zero K x0 hx0)
      have hr1 := HR.out.cell 1 _ rfl
      have HX0 := hide hx0
      clear hx0
      by_cases hk0 : x0 = key
      · subst hk0
        obtain ⟨p, hp⟩ : ∃ p, p = Rf.at_ K x0 := ⟨_, rfl⟩
        have HPD := hide hp
        have hpl : p ≤ K.length := by rw [hp]; exact Rf.at_le K x0
        rw [← hp] at hcn
        clear hp
        by_cases hpn : p < K.length
        · obtain ⟨v, hv⟩ := at_some O p (by omega)
          obtain ⟨go, oo, rfl, _, _, hco⟩ := (HO.out.below HB.out b2) p _ (izV_get O p v hv)
          have hpO : (p : Int) < (O.length : Int) := by omega
          have HA : Hid (v = Rf.ans K O x0) := by show _ = _; unfold Rf.ans; rw [← HPD.out, if_pos hpn, List.getD_eq_getElem?_getD, hv]; rfl
          clear hv
          go_wp2_with fail
          go_ret
          exact ⟨ret_int HA.out, HB.out⟩
        · have HA : Hid ((-1 : Int) = Rf.ans K O x0) := by show _ = _; unfold Rf.ans; rw [← HPD.out, if_neg hpn]
          go_wp2_with fail
          go_ret
          exact ⟨ret_int HA.out, HB.out⟩
      · have hne : (x0.toList == key.toList) = false := by simp [toList_eq_iff, hk0]
        obtain ⟨v, hv⟩ := at_some O 0 (by omega)
        obtain ⟨go, oo, rfl, _, _, hco⟩ := (HO.out.below HB.out b2) 0 _ (izV_get O 0 v hv)
        rw [Nat.add_zero] at hco
        have hO0 : 0 < O.length := by omega
        have HA : Hid (v = Rf.ans K O key) := by
          have h0 : Rf.at_ K key = 0 := by
            have := drop_at K 0 x0 HX0.out
            rw [List.drop_zero] at this
            rw [this]; exact Rf.at_ne x0 key _ hk0
          show _ = _
          unfold Rf.ans
          rw [h0, if_pos hpos, List.getD_eq_getElem?_getD, hv]; rfl
        have hd0 : decide ((K.length : Int) ≤ 0) = false := decide_eq_false (by omega)
        have hKne : ¬ K = [] := fun e => by rw [e] at hpos; simp at hpos
        clear hv hk0
        go_wp2_with fail
        go_ret
        exact ⟨ret_int HA.out, HB.out⟩
end Go.Proofs.Qxb6000844a
