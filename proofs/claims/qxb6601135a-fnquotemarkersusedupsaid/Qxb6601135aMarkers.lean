/-
  qmCandidate, qmHolds, quoteMarkers and its alias: what they answer.
-/
import Derived.Test.Qxb6601135aMem
namespace Go.Proofs.Qxb6601135a
open Go.ChangeShapes Go.WideShapes Go.ChangeAt Go.RowKit

set_option maxHeartbeats 400000 in
theorem F11 (n : Nat) (w : World) (hn : n < 256) :
    Calls Try.prog 11 #[.int .u8 (n : Int)] w fun e w' => e = .returned (.bool (Pl.cand n)) ∧ w' = w := by
  by_cases h1 : 1 ≤ n
  · by_cases h2 : n ≤ 31
    · by_cases h3 : n < 9
      · have HC : Hid (Pl.cand n = true) := by unfold Pl.cand; exact decide_eq_true (by omega)
        go_enter Try.func11, Try.ntmps11
        go_wp2
        go_ret
        exact ⟨ret_bool HC.out.symm, rfl⟩
      · by_cases h4 : 13 < n
        · have HC : Hid (Pl.cand n = true) := by unfold Pl.cand; exact decide_eq_true (by omega)
          go_enter Try.func11, Try.ntmps11
          go_wp2
          go_ret
          exact ⟨ret_bool (by rw [HC.out]; simp; omega), rfl⟩
        · have HC : Hid (Pl.cand n = false) := by unfold Pl.cand; exact decide_eq_false (by omega)
          go_enter Try.func11, Try.ntmps11
          go_wp2
          go_ret
          exact ⟨ret_bool (by rw [HC.out]; simp; omega), rfl⟩
    · have HC : Hid (Pl.cand n = false) := by unfold Pl.cand; exact decide_eq_false (by omega)
      go_enter Try.func11, Try.ntmps11
      go_wp2
      go_ret
      exact ⟨ret_bool HC.out.symm, rfl⟩
  · have HC : Hid (Pl.cand n = false) := by unfold Pl.cand; exact decide_eq_false (by omega)
    go_enter Try.func11, Try.ntmps11
    go_wp2
    go_ret
    exact ⟨ret_bool HC.out.symm, rfl⟩

set_option maxHeartbeats 400000 in
theorem F12 (s : ByteArray) (n : Nat) (w : World) (hs : s.size ≤ 2000000) (_hn : n < 256) :
    Calls Try.prog 12 #[.string s, .int .u8 (n : Int)] w fun e w' => e = .returned (.bool (Pl.holds s.data.toList n)) ∧ w' = w := by
  go_enter Try.func12, Try.ntmps12
  go_wp2
  go_loop [5] (fun i => ∃ k : Nat, k ≤ s.size ∧ i = .int .i64 k ∧ Pl.holds (s.data.toList.take k) n = false) (fun i => s.size - (intOf i).toNat)
  case atStart => exact ⟨0, Nat.zero_le _, rfl, rfl⟩
  case round =>
    obtain ⟨k, hk, rfl, hno⟩ := hrel
    have HN := hide hno
    clear hno
    by_cases hlt : k < s.size
    · have HG := hide (getq s k hlt)
      cases he : ((s[k].toNat : Int) == (n : Int)) with
      | true =>
        have HE : Hid (s[k].toNat = n) := by show _ = _; simp at he; omega
        go_wp2
        go_ret
        exact ⟨ret_bool (by rw [← HE.out, Pl.holds_at _ k _ HG.out]), rfl⟩
      | false =>
        have HE : Hid (s[k].toNat ≠ n) := by show _ ≠ _; simp at he; omega
        go_wp2
        go_round
        case rel => exact ⟨k + 1, by omega, by go_num, Pl.holds_take _ k n _ HN.out HG.out HE.out⟩
        case measure => simp [intOf]; omega
    · go_wp2
      go_ret
      have h := HN.out
      rw [List.take_of_length_le (by rw [len_size]; omega)] at h
      exact ⟨ret_bool h.symm, rfl⟩

theorem one_cell_u8 (n : Int) : ∀ u ∈ [Value.int .u8 n], u.oneCell' = true := by
  intro u hu; simp at hu; subst hu; rfl
theorem Try.info5 : (Try.prog.info? 5).map (fun i => (i.zero, i.size, i.bytes)) = some (some (.int .u8 0), 1, 1) := by kernel_rfl
def bools (l : List Bool) : List Value := l.map Value.bool
def u8s (l : List Nat) : List Value := l.map fun (n : Nat) => Value.int .u8 (n : Int)
theorem bools_get (l : List Bool) (i : Nat) (b : Bool) (h : l[i]? = some b) : (bools l)[i]? = some (.bool b) := by simp [bools, h]
theorem bools_set (l : List Bool) (i : Nat) (b : Bool) : (bools l).set i (.bool b) = bools (l.set i b) := by simp [bools, List.map_set]
theorem u8s_snoc (l : List Nat) (n : Nat) : u8s l ++ [.int .u8 (n : Int)] = u8s (l ++ [n]) := by simp [u8s]
theorem u8s_get (l : List Nat) (i n : Nat) (h : l[i]? = some n) : (u8s l)[i]? = some (.int .u8 (n : Int)) := by simp [u8s, h]

set_option maxHeartbeats 1600000 in
set_option maxRecDepth 1000000 in
theorem F32 (s : ByteArray) (w : World) (hs : s.size ≤ 2000000) :
    Calls Try.prog 32 #[.string s] w fun e w' => ∃ v, e = .returned v ∧ w'.ownsRow (w.heap.size + 1) 5 1 v (Pl.mk s.data.toList 32).length (u8s (Pl.mk s.data.toList 32)) ∧ Below w.heap.size w w' ∧ (Pl.mk s.data.toList 32 = [] → v = .slice none 0 0) := by
  obtain ⟨i0, hi, hz0, hz1, hz2⟩ := info_parts Try.info5
  go_enter Try.func32, Try.ntmps32
  go_wp2
  go_loopw [4] (fun i wr => ∃ k : Nat, k ≤ s.size ∧ i = .int .i64 k ∧ RowV wr w.heap.size 51 (bools (Pl.heldL (s.data.toList.take k))) ∧ Below w.heap.size w wr) (fun i _ => s.size - (intOf i).toNat)
  case atStart => exact ⟨0, Nat.zero_le _, rfl, RowV.fresh w 51 (bools (Pl.heldL [])), (Below.refl _ _).alloc (Nat.le_refl _) _⟩
  case round =>
    obtain ⟨k, hk, rfl, hrow, hbel⟩ := hrel
    by_cases hlt : k < s.size
    · have HG := hide (getq s k hlt)
      by_cases h32 : s[k].toNat < 32
      · have hc := hrow.cell s[k].toNat _ (bools_get _ _ _ (Pl.held_get _ _ h32))
        have hf := hrow.frozen s[k].toNat
        go_wp2
        go_roundw
        case rel =>
          refine ⟨k + 1, by omega, by go_num, ?_, hbel.setCell (Nat.le_refl _) _⟩
          rw [Pl.take_snoc _ k _ HG.out, ← Pl.held_hit _ _ h32, ← bools_set]
          exact hrow.set _ _
        case measure => simp [intOf]; omega
      · go_wp2
        go_roundw
        case rel =>
          refine ⟨k + 1, by omega, by go_num, ?_, hbel⟩
          rw [Pl.take_snoc _ k _ HG.out, Pl.held_miss _ _ h32]
          exact hrow
        case measure => simp [intOf]; omega
    · have hrow2 : RowV wr w.heap.size 51 (bools (Pl.heldL s.data.toList)) := by
        rw [List.take_of_length_le (by rw [len_size]; omega)] at hrow
        exact hrow
      clear hrow
      obtain ⟨w1, rfl⟩ : ∃ w1 : World, w1 = wr := ⟨_, rfl⟩
      have HR := hide hrow2
      have HB := hide hbel
      clear hrow2 hbel
      go_wp2
      go_loopw [5, 6] (fun v b wr => ∃ n : Nat, 1 ≤ n ∧ n ≤ 32 ∧ b = .int .u8 (n : Int) ∧ wr.ownsRow (w.heap.size + 1) 5 1 v (Pl.mk s.data.toList n).length (u8s (Pl.mk s.data.toList n)) ∧ RowV wr w.heap.size 51 (bools (Pl.heldL s.data.toList)) ∧ Below w.heap.size w wr ∧ (Pl.mk s.data.toList n = [] → v = .slice none 0 0)) (fun _ b _ => 32 - (intOf b).toNat)
      case atStart =>
        exact ⟨1, Nat.le_refl _, by omega, rfl, by rw [Pl.mk_one]; exact World.ownsRow_nil _ _ _ _, HR.out, HB.out, fun _ => rfl⟩
      case round =>
        obtain ⟨n, hn1, hn2, rfl, hown, hrow, hbel, hnil⟩ := hrel
        have HNIL := hide hnil
        clear hnil
        by_cases hlt2 : n < 32
        · have hc := hrow.cell n _ (bools_get _ _ _ (Pl.held_get _ _ hlt2))
          have hlen := Pl.mk_len_le s.data.toList n hn2
          by_cases hcn : Pl.cand n = true
          · have hcn' : n < 9 ∨ 13 < n := by simp [Pl.cand] at hcn; omega
            have HC := hide hcn
            clear hcn
            cases hh : Pl.holds s.data.toList n with
            | true =>
              rw [hh] at hc
              have HH := hide hh
              clear hh
              rcases hcn' with h9 | h9
              all_goals
                go_wp2_with fail
                go_roundw
                case rel =>
                  refine ⟨n + 1, by omega, by omega, by go_num, ?_, hrow, hbel, ?_⟩
                  · rw [Pl.mk_miss2 _ _ HH.out]; exact hown
                  · rw [Pl.mk_miss2 _ _ HH.out]; exact HNIL.out
                case measure => (simp [intOf]; try omega)
            | false =>
              rw [hh] at hc
              have HH := hide hh
              clear hh
              rcases hcn' with h9 | h9
              all_goals
                go_wp2_with (first | (at_builtin; refine wpList_append_own _ rfl _ _ 23 rfl (w.heap.size + 1) 5 i0 (.int .u8 0) 1 1 Try.underlying23 hi hz0 hz1 hz2 rfl (by decide) _ _ _ rfl (hown.alloc _) ⟨wr.heap.size, 0, none⟩ 1 1 [.int .u8 (n : Int)] rfl rfl (cell_one_new _ _ _) (one_cell_u8 _) ?c3 ?c4 ?c5 ?_))
                case c3 => unfold maxLen; omega
                case c4 => omega
                case c5 => have := hbel.size; have := hrow.lt; simp; omega
                intro v' w2 hown' hgrow hnil'
                have hsz := hrow.lt
                have hob := World.ownsRow.lt hown
                have hrow' : RowV w2 w.heap.size 51 (bools (Pl.heldL s.data.toList)) := (hrow.alloc _).grown hgrow (fun e => by have := (hob _ e.symm).1; omega)
                have hbel' : Below w.heap.size w w2 := (hbel.alloc (by omega) _).grown hgrow (by simp; omega) (fun k hk => by have := (hob k hk).1; omega)
                clear hown hgrow hrow hbel hob hc
                go_wp2_with fail
                go_roundw
                case rel =>
                  refine ⟨n + 1, by omega, by omega, by go_num, ?_, hrow', hbel', ?_⟩
                  · rw [Pl.mk_hit _ _ HC.out HH.out, List.length_append, ← u8s_snoc]; exact hown'
                  · rw [Pl.mk_hit _ _ HC.out HH.out]; intro h; simp at h
                case measure => (simp [intOf]; try omega)
          · have hcn' : 9 ≤ n ∧ n ≤ 13 := by simp [Pl.cand] at hcn; omega
            have HC : Hid (Pl.cand n = false) := by show _ = _; simpa using hcn
            clear hcn
            obtain ⟨hn9, hn13⟩ := hcn'
            go_wp2_with fail
            go_roundw
            case rel =>
              refine ⟨n + 1, by omega, by omega, by go_num, ?_, hrow, hbel, ?_⟩
              · rw [Pl.mk_miss1 _ _ HC.out]; exact hown
              · rw [Pl.mk_miss1 _ _ HC.out]; exact HNIL.out
            case measure => (simp [intOf]; try omega)
        · obtain rfl : n = 32 := by omega
          go_wp2_with fail
          go_ret
          exact ⟨_, rfl, hown, hbel, HNIL.out⟩

theorem F10 (s : ByteArray) (w : World) (hs : s.size ≤ 2000000) :
    Calls Try.prog 10 #[.string s] w fun e w' => ∃ v, e = .returned v ∧ w'.ownsRow (w.heap.size + 1) 5 1 v (Pl.mk s.data.toList 32).length (u8s (Pl.mk s.data.toList 32)) ∧ Below w.heap.size w w' ∧ (Pl.mk s.data.toList 32 = [] → v = .slice none 0 0) := by
  go_enter Try.func10, Try.ntmps10
  go_wp2_with fail
  refine (F32 s _ hs).mono ?_
  rintro _ w' ⟨v, rfl, h⟩
  have H := hide h
  clear h
  go_wp2_with fail
  go_ret
  exact ⟨v, rfl, H.out⟩
end Go.Proofs.Qxb6601135a
