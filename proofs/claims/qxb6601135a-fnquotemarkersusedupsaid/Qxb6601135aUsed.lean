/-
  qmHoldsB, and the walk of FnQuoteMarkersUsedUp.
-/
import Derived.Test.Qxb6601135aMarkers
import Derived.Deep.QuietTactic
import Derived.BigQuiet
namespace Go.Proofs.Qxb6601135a
open Go.ChangeShapes Go.WideShapes Go.ChangeAt Go.RowKit

/-- What is known of a slice's cells: where there is one, the slice leads to a block of the call's own. -/
def CellsAt (w : World) (base : Nat) (a : Option Addr) (xs : List Value) : Prop :=
  ∀ j u, xs[j]? = some u → ∃ g, a = some ⟨g, 0, none⟩ ∧ base ≤ g ∧ g < w.heap.size ∧ w.cell? ⟨g, j, none⟩ = some u
theorem owns_form {w : World} {base : Nat} {e : TypeId} {v : Value} {n : Nat} {xs : List Value} (h : w.ownsRow base e 1 v n xs) :
    ∃ a cap, v = .slice a n cap ∧ CellsAt w base a xs := by
  obtain ⟨hl, h2⟩ := owns_cases h
  rcases h2 with ⟨hv, hn⟩ | ⟨g, cap, hv, hb, hg, _, _, hc⟩
  · subst hn
    exact ⟨none, 0, hv, fun j u hj => by rw [List.eq_nil_of_length_eq_zero hl] at hj; simp at hj⟩
  · exact ⟨some ⟨g, 0, none⟩, cap, hv, fun j u hj => ⟨g, rfl, hb, hg, hc j u hj⟩⟩

theorem push_all : ∀ (l : List Nat) (b : ByteArray), (l.map fun (n : Nat) => (n : Int)).foldl (fun r n => r.push (UInt8.ofNat n.toNat)) b = ⟨b.data ++ (Pl.bytes l).toArray⟩
  | [], b => by simp [Pl.bytes]
  | c :: t, b => by
    rw [List.map_cons, List.foldl_cons, push_all t]
    simp [ByteArray.push, Pl.bytes]
theorem text_of (w : World) (base : Nat) (a : Option Addr) (cap : Nat) (ns : List Nat) (h : CellsAt w base a (u8s ns)) :
    (convert 23 9 (.slice a ns.length cap)).run Try.prog w = .ok (.string ⟨(Pl.bytes ns).toArray⟩) w := by
  rw [run_convert_bytes_string w 23 9 5 _ _ _ Try.underlying23 Try.underlying5 Try.underlying9]
  cases ns with
  | nil =>
    cases a with
    | none => rfl
    | some x =>
      have hl : (loadCells x 0).run Try.prog w = .ok (([] : List Int).map (Value.int .u8)).toArray w := by
        have := run_loadCells_list (P := Try.prog) (w := w) x [] (fun j v hv => by simp at hv)
        simpa using this
      exact run_bytesToString w x 0 cap [] hl
  | cons n t =>
    obtain ⟨g, rfl, _⟩ := h 0 (.int .u8 (n : Int)) (by simp [u8s])
    have hl : (loadCells ⟨g, 0, none⟩ (n :: t).length).run Try.prog w = .ok (((n :: t).map fun (n : Nat) => (n : Int)).map (Value.int .u8)).toArray w := by
      have := run_loadCells_list (P := Try.prog) (w := w) ⟨g, 0, none⟩ (((n :: t).map fun (n : Nat) => (n : Int)).map (Value.int .u8)) (fun j v hv => by
        obtain ⟨g', hg', _, _, hc⟩ := h j v (by rw [List.map_map] at hv; exact hv)
        cases hg'
        rw [add_plain, Nat.zero_add]
        exact hc)
      simpa using this
    rw [run_bytesToString w ⟨g, 0, none⟩ _ cap _ hl, push_all]
    simp

theorem holdsB_take (l : List Nat) (j n m : Nat) (h : ¬ n ∈ l.take j) (hj : l[j]? = some m) (hm : m ≠ n) : ¬ n ∈ l.take (j + 1) := by
  rw [List.take_add_one, hj]
  intro hx
  rcases List.mem_append.1 hx with hx | hx
  · exact h hx
  · simp at hx; exact hm hx.symm
set_option maxHeartbeats 400000 in
theorem F16 (a : Option Addr) (cap base : Nat) (ns : List Nat) (n : Nat) (w : World) (hl : ns.length ≤ 1000) (hc : CellsAt w base a (u8s ns)) :
    Calls Try.prog 16 #[.slice a ns.length cap, .int .u8 (n : Int)] w fun e w' => e = .returned (.bool (decide (n ∈ ns))) ∧ w' = w := by
  have HC := hide hc
  clear hc
  go_enter Try.func16, Try.ntmps16
  go_wp2
  go_loop [5] (fun i => ∃ k : Nat, k ≤ ns.length ∧ i = .int .i64 k ∧ ¬ n ∈ ns.take k) (fun i => ns.length - (intOf i).toNat)
  case atStart => exact ⟨0, Nat.zero_le _, rfl, by simp⟩
  case round =>
    obtain ⟨k, hk, rfl, hno⟩ := hrel
    have HN := hide hno
    clear hno
    by_cases hlt : k < ns.length
    · have hg : ns[k]? = some (ns.getD k 0) := by rw [List.getD_eq_getElem?_getD, List.getElem?_eq_getElem hlt]; rfl
      obtain ⟨g, rfl, _, _, hcell⟩ := HC.out k _ (u8s_get _ _ _ hg)
      have HG := hide hg
      clear hg
      generalize ns.getD k 0 = m at *
      cases he : ((m : Int) == (n : Int)) with
      | true =>
        have HE : Hid (m = n) := by show _ = _; simp at he; omega
        go_wp2
        go_ret
        refine ⟨ret_bool ?_, rfl⟩
        exact (decide_eq_true (by rw [← HE.out]; exact List.mem_of_getElem? HG.out)).symm
      | false =>
        have HE : Hid (m ≠ n) := by show _ ≠ _; simp at he; omega
        go_wp2
        go_round
        case rel => exact ⟨k + 1, by omega, by go_num, holdsB_take _ _ _ _ HN.out HG.out HE.out⟩
        case measure => simp [intOf]; omega
    · go_wp2
      go_ret
      have h := HN.out
      rw [List.take_of_length_le (by omega)] at h
      exact ⟨ret_bool (decide_eq_false h).symm, rfl⟩

theorem app_data (s t : ByteArray) : (s ++ t).data.toList = s.data.toList ++ t.data.toList := by
  rw [ByteArray.data_append, Array.toList_append]

set_option maxHeartbeats 2000000 in
set_option maxRecDepth 100000 in
theorem used_walk (a0 : ByteArray) (w : World) (w0 : a0.size ≤ maxLen) :
    Calls Try.prog 5 #[.string a0] w fun e w' => e = .returned (.bool true) ∧ Below w.heap.size w w' := by
  unfold maxLen at w0
  by_cases hsz : a0.size ≤ 1048544
  case neg =>
    by_cases hsz2 : a0.size ≤ 1048576
    all_goals
      go_enter Try.func5, Try.ntmps5
      go_wp2
      go_ret
      exact ⟨rfl, Below.refl _ _⟩
  case pos =>
  go_enter Try.func5, Try.ntmps5
  go_wp2_with (first | (go_at_call 15; go_in) | fail)
  refine (F10 a0 _ (by omega)).mono ?_
  rintro _ w1 ⟨v1, rfl, hown1, hbel1, hnil1⟩
  obtain ⟨a1, cap1, rfl, hc1⟩ := owns_form hown1
  have hconv := text_of w1 _ a1 cap1 _ hc1
  have hN := Pl.mk_len a0.data.toList
  have HU := hide (Pl.used_up a0.data.toList)
  have HPA := hide (Pl.parts a0.data.toList)
  have HHB := hide (Pl.holds_bytes a0.data.toList)
  have HB1 := hide hbel1
  have hmsl : (⟨(Pl.bytes (Pl.mk a0.data.toList 32)).toArray⟩ : ByteArray).size ≤ 26 := by
    show (Pl.bytes (Pl.mk a0.data.toList 32)).toArray.size ≤ 26
    rw [List.size_toArray]; unfold Pl.bytes; rw [List.length_map]; exact hN
  have HMS : Hid ((⟨(Pl.bytes (Pl.mk a0.data.toList 32)).toArray⟩ : ByteArray).data.toList = Pl.bytes (Pl.mk a0.data.toList 32)) := rfl
  clear hown1 hbel1 hnil1 hc1
  generalize (⟨(Pl.bytes (Pl.mk a0.data.toList 32)).toArray⟩ : ByteArray) = ms at *
  go_wp2_with fail
  refine (F10 _ _ (by rw [ByteArray.size_append]; omega)).mono ?_
  rintro _ w2 ⟨v2, rfl, hown2, hbel2, hnil2⟩
  have hv2 : v2 = .slice none 0 0 := hnil2 (by rw [app_data, HMS.out]; exact HU.out)
  subst hv2
  have HB2 := hide (HB1.out.trans (hbel2.mono HB1.out.size))
  clear hown2 hbel2 hnil2
  go_wp2_with fail
  refine (F10 ms _ (by omega)).mono ?_
  rintro _ w3 ⟨v3, rfl, hown3, hbel3, hnil3⟩
  obtain ⟨a3, cap3, rfl, hc3⟩ := owns_form hown3
  have HB3 := hide (HB2.out.trans (hbel3.mono HB2.out.size))
  have HC3 := hide hc3
  have hR := Pl.mk_len ms.data.toList
  have HINC := hide (Pl.mk_incr ms.data.toList)
  have HPA2 : Hid (∀ n, Pl.cand n = (decide (n ∈ Pl.mk a0.data.toList 32) != decide (n ∈ Pl.mk ms.data.toList 32)) ∧ (decide (n ∈ Pl.mk a0.data.toList 32) && decide (n ∈ Pl.mk ms.data.toList 32)) = false) := by
    rw [HMS.out]; exact HPA.out
  have HHB2 : Hid (∀ n, Pl.holds ms.data.toList n = decide (n ∈ Pl.mk a0.data.toList 32)) := by rw [HMS.out]; exact HHB.out
  clear hown3 hbel3 hnil3 hc3 hconv hN HU HPA HHB HMS HB1 HB2
  generalize Pl.mk ms.data.toList 32 = R at *
  generalize Pl.mk a0.data.toList 32 = M at *
  go_wp2_with fail
  go_loopw [6] (fun kv wr => ∃ j : Nat, kv = .int .i64 ((j : Int) + 1) ∧ j ≤ R.length ∧ (∀ b o, wr.cell? ⟨b, o, none⟩ = w3.cell? ⟨b, o, none⟩) ∧ wr.heap.size = w3.heap.size ∧ Below w.heap.size w wr) (fun kv _ => R.length - (intOf kv).toNat)
  case atStart => exact ⟨0, rfl, Nat.zero_le _, fun _ _ => rfl, rfl, HB3.out⟩
  case round =>
    obtain ⟨j, rfl, hj, hsame, hszw, hbel⟩ := hrel
    have HSW := hide hsame
    have HSZ := hide hszw
    have HBL := hide hbel
    clear hsame hszw hbel
    by_cases hlt : j + 1 < R.length
    · have g0 : R[j]? = some (R.getD j 0) := by rw [List.getD_eq_getElem?_getD, List.getElem?_eq_getElem (by omega)]; rfl
      have g1 : R[j + 1]? = some (R.getD (j + 1) 0) := by rw [List.getD_eq_getElem?_getD, List.getElem?_eq_getElem hlt]; rfl
      have hxy := HINC.out j _ _ g0 g1
      obtain ⟨g, rfl, hg1, hg2, hce0⟩ := HC3.out j _ (u8s_get _ _ _ g0)
      obtain ⟨g', hgg, _, _, hce1⟩ := HC3.out (j + 1) _ (u8s_get _ _ _ g1)
      cases hgg
      rw [← HSW.out] at hce0 hce1
      clear g0 g1
      generalize R.getD j 0 = x at *
      generalize R.getD (j + 1) 0 = y at *
      go_wp2_with fail
      go_quiet (fail)
      go_wp2_with fail
      go_roundw
      case rel => exact ⟨j + 1, by go_num, by omega, HSW.out, HSZ.out, below_drewN HBL.out _⟩
      case measure => (simp [intOf]; try omega)
    · have HC4 : Hid (CellsAt wr (w2.heap.size + 1) a3 (u8s R)) := fun i u hu => by
        obtain ⟨g, h1, h2, h3, h4⟩ := HC3.out i u hu
        exact ⟨g, h1, h2, by rw [HSZ.out]; exact h3, by rw [HSW.out]; exact h4⟩
      clear HC3 HSW HSZ HINC HB3
      obtain ⟨w4, rfl⟩ : ∃ w4 : World, w4 = wr := ⟨_, rfl⟩
      go_wp2_with fail
      go_loop [7] (fun cv => ∃ c : Nat, c ≤ 256 ∧ cv = .int .i64 c) (fun cv => 256 - (intOf cv).toNat)
      case atStart => exact ⟨0, by omega, rfl⟩
      case round =>
        obtain ⟨c, hc, rfl⟩ := hrel
        by_cases hc256 : c < 256
        · have hpa := HPA2.out c
          have HP1 := hide hpa.1
          have hp2 := hpa.2
          clear hpa
          go_wp2_with fail
          refine (F12 ms c _ (by omega) hc256).mono ?_
          rintro _ w5 ⟨rfl, hw5⟩
          subst w5
          rw [HHB2.out c]
          go_wp2_with fail
          refine (F16 a3 cap3 _ R c _ (by omega) HC4.out).mono ?_
          rintro _ w5 ⟨rfl, hw5⟩
          subst w5
          have HP1' := HP1.out
          generalize decide (c ∈ M) = x at *
          generalize decide (c ∈ R) = y at *
          cases x <;> cases y <;> first | (simp at hp2; done) | skip
          all_goals
            clear HP1 hp2
            have HP3 := hide HP1'
            clear HP1'
            go_wp2_with fail
            refine (F11 c _ hc256).mono ?_
            rintro _ w5 ⟨rfl, hw5⟩
            subst w5
            rw [HP3.out]
            go_wp2_with fail
            go_round
            case rel => exact ⟨c + 1, by omega, by go_num⟩
            case measure => (simp [intOf]; try omega)
        · go_wp2_with fail
          go_ret
          exact ⟨rfl, HBL.out⟩
end Go.Proofs.Qxb6601135a
