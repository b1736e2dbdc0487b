/-
  eitherField where the two lists of fields are one: the fields and the marks come back as they are; each way has bit added, in place.
-/
import Derived.Test.Qxb6601135aSame
import Derived.Test.Qxb6601135aSub
namespace Go.Proofs.Qxb6601135a
open Go.ChangeShapes Go.WideShapes Go.ChangeAt Go.RowKit
set_option linter.unusedVariables false

theorem or_mid (W : List Nat) (k x bit : Nat) (h : W[k]? = some x) : (wdV ((W.take k).map (fun y => y ||| bit) ++ W.drop k)).set k (.int .u64 ((x ||| bit : Nat) : Int)) = wdV ((W.take (k + 1)).map (fun y => y ||| bit) ++ W.drop (k + 1)) := by
  have hl : k < W.length := by
    rcases Nat.lt_or_ge k W.length with h' | h'
    · exact h'
    · rw [List.getElem?_eq_none h'] at h; cases h
  have hk : ((W.take k).map (fun y => y ||| bit)).length = k := by rw [List.length_map, len_take W k (by omega)]
  have hd : W.drop k = x :: W.drop (k + 1) := by
    rw [List.drop_eq_getElem_cons hl]
    rw [List.getElem?_eq_getElem hl] at h; cases h; rfl
  rw [take_at W k x h, List.map_append, hd]
  unfold wdV
  rw [List.map_append, List.set_append_right _ _ (by rw [List.length_map, hk]; exact Nat.le_refl _), List.length_map, hk, Nat.sub_self]
  simp
theorem mid_get (W : List Nat) (k x bit : Nat) (h : W[k]? = some x) : (wdV ((W.take k).map (fun y => y ||| bit) ++ W.drop k))[k]? = some (.int .u64 (x : Int)) := by
  have hl : k < W.length := by
    rcases Nat.lt_or_ge k W.length with h' | h'
    · exact h'
    · rw [List.getElem?_eq_none h'] at h; cases h
  apply wdV_get
  have hk : ((W.take k).map (fun y => y ||| bit)).length = k := by rw [List.length_map, len_take W k (by omega)]
  rw [List.getElem?_append_right (by omega), hk, Nat.sub_self, List.getElem?_drop, Nat.add_zero, h]

/-- What eitherField answers of one list. -/
def E1P (aA aL aW : Option Addr) (gW : Nat) (A : List ByteArray) (nL : Nat) (W : List Nat) (bit : Nat) (w : World) (e : Ending) (w' : World) : Prop :=
  e = .returned (.tuple #[.slice aA A.length A.length, .slice aL nL nL, .slice aW W.length W.length]) ∧ w.grownBy w' (some gW) ∧ (aW ≠ none → RowV w' gW 35 (wdV (W.map (fun y => y ||| bit))))

theorem grown_below {w w' w'' : World} {r : Option Nat} (h : Below w.heap.size w w') (hg : w'.grownBy w'' r) : w.grownBy w'' r :=
  ⟨hg.os.trans h.os, hg.tape.trans h.tape, hg.output.trans h.output, Nat.le_trans h.size hg.size, fun k hk hr => (hg.block k (Nat.lt_of_lt_of_le hk h.size) hr).trans (h.block k hk)⟩
theorem grown_set {w w' : World} {g i : Nat} (hg : w.grownBy w' (some g)) (v : Value) : w.grownBy (w'.setCell ⟨g, i, none⟩ v) (some g) :=
  ⟨hg.os, hg.tape, hg.output, by rw [World.size_setCell]; exact hg.size, fun k hk hr => (Below.heap_setCell _ _ _ _ (fun e => hr (by rw [e]))).trans (hg.block k hk hr)⟩
theorem grown_of_below {w w' : World} {r : Option Nat} (h : Below w.heap.size w w') : w.grownBy w' r :=
  ⟨h.os, h.tape, h.output, h.size, fun k hk _ => h.block k hk⟩

set_option maxHeartbeats 1000000 in
set_option maxRecDepth 100000 in
theorem E1 (aA aL aW aB : Option Addr) (gW l1 h1 l2 h2 nL bit : Nat) (A : List ByteArray) (W : List Nat) (w : World) (hA : CellsIn w l1 h1 aA (strV A)) (hB : CellsIn w l2 h2 aB (strV A)) (b1 : h1 ≤ w.heap.size) (b2 : h2 ≤ w.heap.size)
    (n1 : A.length ≤ 70000) (n2 : W.length ≤ 70000) (hb : bit < 18446744073709551616) (hwb : ∀ x ∈ W, x < 18446744073709551616)
    (hW : (aW = none ∧ W = []) ∨ (aW = some ⟨gW, 0, none⟩ ∧ RowV w gW 35 (wdV W))) :
    Calls Try.prog 34 #[.slice aA A.length A.length, .slice aL nL nL, .slice aW W.length W.length, .slice aB A.length A.length, .int .u64 (bit : Int)] w (E1P aA aL aW gW A nL W bit w) := by
  have HA := hide hA
  have HB := hide hB
  have HWB := hide hwb
  clear hA hB hwb
  rcases hW with ⟨rfl, rfl⟩ | ⟨rfl, hrow⟩
  · go_enter Try.func34, Try.ntmps34
    go_wp2_with fail
    refine (F38 aA aB _ _ l1 h1 l2 h2 A A _ HA.out HB.out b1 b2 (by omega) (by omega)).mono ?_
    rintro _ w1 ⟨rfl, hbel⟩
    rw [decide_eq_true (rfl : A = A)]
    have HBL := hide hbel
    clear hbel
    go_wp2_with fail
    refine wp_loop_rounds 1 ?_
    rw [rounds_succ]
    go_wp2_with fail
    go_ret3
    exact ⟨rfl, grown_of_below HBL.out, fun h => absurd rfl h⟩
  · have HROW := hide hrow
    have hgw := hrow.lt
    clear hrow
    go_enter Try.func34, Try.ntmps34
    go_wp2_with fail
    refine (F38 aA aB _ _ l1 h1 l2 h2 A A _ HA.out HB.out b1 b2 (by omega) (by omega)).mono ?_
    rintro _ w1 ⟨rfl, hbel⟩
    rw [decide_eq_true (rfl : A = A)]
    have HR1 := hide (HROW.out.below hbel hgw)
    have HBL := hide hbel
    clear hbel
    go_wp2_with fail
    go_loopw [27] (fun iv wr => ∃ k : Nat, k ≤ W.length ∧ iv = .int .i64 k ∧ RowV wr gW 35 (wdV ((W.take k).map (fun y => y ||| bit) ++ W.drop k)) ∧ w.grownBy wr (some gW)) (fun iv _ => W.length - (intOf iv).toNat)
    case atStart => exact ⟨0, Nat.zero_le _, rfl, HR1.out, grown_of_below HBL.out⟩
    case round =>
      obtain ⟨k, hk, rfl, hrow, hgr⟩ := hrel
      have HR := hide hrow
      have HG := hide hgr
      by_cases hlt : k < W.length
      · obtain ⟨x, hx⟩ := at_some W k hlt
        have hc := hrow.cell k _ (mid_get W k x bit hx)
        have hf := hrow.frozen k
        have HOR : Hid (bits .or .u64 (x : Int) (bit : Int) = ((x ||| bit : Nat) : Int)) := u64_or_nat x bit (HWB.out x (List.mem_of_getElem? hx)) hb
        have HS := hide (or_mid W k x bit hx)
        clear hrow hgr hx
        go_wp2_with fail
        go_roundw
        case rel =>
          refine ⟨k + 1, by omega, by go_num, ?_, grown_set HG.out _⟩
          rw [← HS.out, HOR.out]
          exact HR.out.set _ _
        case measure => (simp [intOf]; try omega)
      · clear hrow hgr
        have HR2 : Hid (RowV wr gW 35 (wdV (W.map (fun y => y ||| bit)))) := by
          have h := HR.out
          rw [List.take_of_length_le (by omega), List.drop_of_length_le (by omega), List.append_nil] at h
          exact h
        go_wp2_with fail
        go_ret3
        exact ⟨rfl, HG.out, fun _ => HR2.out⟩
end Go.Proofs.Qxb6601135a
