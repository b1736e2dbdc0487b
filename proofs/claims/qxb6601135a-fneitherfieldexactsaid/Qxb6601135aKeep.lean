/-
  What eitherField answers, in the words of FnEitherFieldKeepsBoth, whichever of its three ways it goes.
-/
import Derived.Test.Qxb6601135aEither3
import Derived.Test.Qxb6601135aCount
namespace Go.Proofs.Qxb6601135a
open Go.ChangeShapes Go.WideShapes Go.ChangeAt Go.RowKit
set_option linter.unusedVariables false

def givenOf (aL : Option Addr) (A : List ByteArray) (L : List Bool) : Nat := match aL with | none => A.length | some _ => Ef.falses L
def wantOf (W : List Nat) (n bit : Nat) : Nat := if 0 < n then Ef.orAll W ||| bit else Ef.orAll W

structure Kept (aL aW : Option Addr) (A B : List ByteArray) (L : List Bool) (W : List Nat) (bit : Nat) (aG aV : Option Addr) (F : List ByteArray) (G : List Bool) (V : List Nat) : Prop where
  embA : (Ef.sub A F 0).length = A.length
  embB : (Ef.sub B F 0).length = B.length
  lenF : F.length ≤ 140000
  lenG : (aG = none ∧ aL = none ∧ G = []) ∨ G.length = F.length
  few : Ef.falses G ≤ givenOf aL A L
  nilW : aW = none → aV = none ∧ V = []
  someW : aW ≠ none → aV ≠ none ∧ V.length = F.length ∧ Ef.orAll V = wantOf W B.length bit
  fits : ∀ x ∈ V, x < 18446744073709551616

def KeepP (aL aW : Option Addr) (gW : Nat) (A B : List ByteArray) (L : List Bool) (W : List Nat) (bit : Nat) (w : World) (e : Ending) (w' : World) : Prop :=
  ∃ aF cF aG cG aV cV F G V, e = .returned (.tuple #[.slice aF F.length cF, .slice aG G.length cG, .slice aV V.length cV]) ∧
    CellsIn w' 0 w'.heap.size aF (strV F) ∧ CellsIn w' 0 w'.heap.size aG (blV G) ∧ CellsIn w' 0 w'.heap.size aV (wdV V) ∧ w.grownBy w' (some gW) ∧ Kept aL aW A B L W bit aG aV F G V

theorem sub_self_len (A : List ByteArray) : (Ef.sub A A 0).length = A.length := Ef.sub_of_sublist A A 0 (List.Sublist.refl _)
theorem range_getD (L : List Bool) : (List.range L.length).map (fun i => L.getD i false) = L := by
  apply List.ext_getElem?
  intro i
  rw [List.getElem?_map]
  by_cases h : i < L.length
  · rw [List.getElem?_range h]; simp [h]
  · rw [List.getElem?_eq_none (by simp; omega), List.getElem?_eq_none (by omega)]; rfl
theorem range_getD_nil (n : Nat) : Ef.falses ((List.range n).map (fun i => ([] : List Bool).getD i false)) = n := by
  have : (List.range n).map (fun i => ([] : List Bool).getD i false) = List.replicate n false := by
    apply List.ext_getElem?
    intro i
    by_cases h : i < n
    · simp [h]
    · rw [List.getElem?_eq_none (by simp; omega), List.getElem?_eq_none (by simp; omega)]
  rw [this]; simp [Ef.falses]
theorem grown_keep {w w' : World} {g lo hi : Nat} {a : Option Addr} {xs : List Value} (h : CellsIn w lo hi a xs) (hg : w.grownBy w' (some g)) (hout : hi ≤ g ∨ g < lo) (hhi : hi ≤ w.heap.size) : CellsIn w' lo hi a xs :=
  h.keep fun k h1 h2 => hg.block k (by omega) (fun e => by cases e; omega)

theorem either_keep (aA aL aW aB : Option Addr) (gW l1 h1 l2 h2 l3 h3 bit : Nat) (A B : List ByteArray) (L : List Bool) (W : List Nat) (w : World) (hA : CellsIn w l1 h1 aA (strV A)) (hB : CellsIn w l2 h2 aB (strV B)) (hL : CellsIn w l3 h3 aL (blV L)) (b1 : h1 ≤ w.heap.size) (b2 : h2 ≤ w.heap.size) (b3 : h3 ≤ w.heap.size)
    (o1 : h1 ≤ gW ∨ gW < l1) (o3 : h3 ≤ gW ∨ gW < l3)
    (n1 : A.length ≤ 70000) (n3 : B.length ≤ 70000) (n2 : W.length ≤ 70000) (hb : bit < 18446744073709551616) (hwb : ∀ x ∈ W, x < 18446744073709551616)
    (hLl : (aL = none ∧ L = []) ∨ (∃ ad, aL = some ad) ∧ L.length = A.length)
    (hW : (aW = none ∧ W = []) ∨ (aW = some ⟨gW, 0, none⟩ ∧ RowV w gW 35 (wdV W) ∧ W.length = A.length)) :
    Calls Try.prog 34 #[.slice aA A.length A.length, .slice aL L.length L.length, .slice aW W.length W.length, .slice aB B.length B.length, .int .u64 (bit : Int)] w (KeepP aL aW gW A B L W bit w) := by
  have hW0 : (aW = none ∧ W = []) ∨ (aW = some ⟨gW, 0, none⟩ ∧ RowV w gW 35 (wdV W)) := by
    rcases hW with h | ⟨h, h', _⟩
    · exact Or.inl h
    · exact Or.inr ⟨h, h'⟩
  by_cases hAB : A = B
  · subst hAB
    refine (E1 aA aL aW aB gW l1 h1 l2 h2 L.length bit A W w hA hB b1 b2 n1 n2 hb hwb hW0).mono ?_
    rintro e w' ⟨rfl, hg, hrow⟩
    have hsz := hg.size
    have hcA := (grown_keep hA hg o1 b1).wide (Nat.zero_le _) (show h1 ≤ w'.heap.size by omega)
    have hcL := (grown_keep hL hg o3 b3).wide (Nat.zero_le _) (show h3 ≤ w'.heap.size by omega)
    have hfew : Ef.falses L ≤ givenOf aL A L := by
      rcases hLl with ⟨rfl, rfl⟩ | ⟨⟨ad, rfl⟩, _⟩
      · exact Nat.zero_le _
      · exact Nat.le_refl _
    have hlenG : (aL = none ∧ aL = none ∧ L = []) ∨ L.length = A.length := by
      rcases hLl with ⟨h, h'⟩ | ⟨_, h'⟩
      · exact Or.inl ⟨h, h, h'⟩
      · exact Or.inr h'
    rcases hW with ⟨rfl, rfl⟩ | ⟨rfl, hr, hwl⟩
    · exact ⟨aA, _, aL, _, none, 0, A, L, [], rfl, hcA, hcL, CellsIn.nil _ _ _ _, hg, ⟨sub_self_len A, sub_self_len A, by omega, hlenG, hfew, fun _ => ⟨rfl, rfl⟩, fun h => absurd rfl h, fun x hx => by cases hx⟩⟩
    · have hr' := hrow (by simp)
      refine ⟨aA, _, aL, _, some ⟨gW, 0, none⟩, W.length, A, L, W.map (fun y => y ||| bit), by rw [List.length_map], hcA, hcL, hr'.cellsAll.wide (Nat.zero_le _) hr'.lt, hg, ⟨sub_self_len A, sub_self_len A, by omega, hlenG, hfew, fun h => (by cases h), fun _ => ⟨by simp, by rw [List.length_map, hwl], ?_⟩, ?_⟩⟩
      · unfold wantOf
        rcases Nat.eq_zero_or_pos A.length with h0 | h0
        · rw [if_neg (by omega), List.eq_nil_of_length_eq_zero (by omega : W.length = 0)]; rfl
        · rw [if_pos h0, Ef.orAll_map bit W (fun h => by rw [h] at hwl; simp at hwl; omega)]
      · intro x hx
        obtain ⟨y, hy, rfl⟩ := List.mem_map.1 hx
        exact Nat.or_lt_two_pow (n := 64) (hwb y hy) hb
  by_cases hs : (Ef.sub A B 0).length = A.length
  · refine (E3 aA aL aW aB gW l1 h1 l2 h2 l3 h3 bit A B L W w hA hB hL b1 b2 b3 n1 n3 n2 hb hwb hLl hW hAB hs).mono ?_
    rintro e w' ⟨adL, aW', cW', rfl, hcM, hnil, hcV, hbel⟩
    have hsz := hbel.size
    have hB0 : 0 < B.length := by
      rcases Nat.eq_zero_or_pos B.length with h | h
      · exfalso; apply hAB
        have e0 := List.eq_nil_of_length_eq_zero h
        rw [e0, Ef.sub_nil_right] at hs
        rw [e0]; exact List.eq_nil_of_length_eq_zero hs.symm
      · exact h
    have hlt : ∀ i, i < (Ef.sub A B 0).length → (Ef.sub A B 0).getD i 0 < (bitsL B.length bit).length := fun i hi => by
      obtain ⟨p, hp⟩ := at_some _ i hi
      rw [getD_of _ i p 0 hp, bitsL_len]
      have := Ef.sub_lt B A 0 p (List.mem_of_getElem? hp); omega
    refine ⟨aB, _, some adL, B.length, aW', cW', B, marksOut A B L, waysOut3 aW A B W bit, by rw [marksOut_len], (hB.below hbel b2).wide (Nat.zero_le _) (by omega), hcM.wide (Nat.zero_le _) (Nat.le_refl _), hcV.wide (Nat.zero_le _) (Nat.le_refl _), grown_of_below hbel, ⟨hs, sub_self_len B, by omega, Or.inr (marksOut_len A B L), ?_, ?_, ?_, ?_⟩⟩
    · have h := Ef.fill_falses (trues B.length) (Ef.sub A B 0) (fun i => L.getD i false) (Ef.sub A B 0).length
      rw [show Ef.falses (trues B.length) = 0 from Ef.falses_rep _, Nat.zero_add, hs] at h
      unfold marksOut
      rw [hs]
      refine Nat.le_trans h ?_
      rcases hLl with ⟨rfl, rfl⟩ | ⟨⟨ad, rfl⟩, hl⟩
      · rw [range_getD_nil]; exact Nat.le_refl _
      · rw [← hl, range_getD]; exact Nat.le_refl _
    · rintro rfl
      exact ⟨hnil.2 rfl, rfl⟩
    · intro hn
      rcases hW with ⟨h, _⟩ | ⟨rfl, _, hwl⟩
      · exact absurd h hn
      · refine ⟨fun h => hn (hnil.1 h), by show (Ef.fillW _ _ _ _).length = _; rw [Ef.fillW_len, bitsL_len], ?_⟩
        show Ef.orAll (Ef.fillW (bitsL B.length bit) (Ef.sub A B 0) W (Ef.sub A B 0).length) = _
        rw [Ef.fillW_or _ _ _ _ (by omega) hlt, List.take_of_length_le (by omega), show Ef.orAll (bitsL B.length bit) = bit from Ef.orAll_rep bit _ hB0]
        unfold wantOf
        rw [if_pos hB0, Nat.or_comm]
    · rcases hW with ⟨rfl, _⟩ | ⟨rfl, _, hwl⟩
      · intro x hx; cases hx
      · exact fillW_lt _ _ _ (bitsL_lt _ _ hb) hwb _
  · refine (E2 aA aL aW aB gW l1 h1 l2 h2 L.length bit A B W w hA hB b1 b2 n1 n3 n2 hb hW0 hAB hs).mono ?_
    rintro e w' ⟨adF, cF, adL, aW', cW', rfl, hcF, hcM, hnil, hcV, hbel⟩
    refine ⟨some adF, cF, some adL, _, aW', cW', A ++ B, trues (A.length + B.length), waysOut aW W B.length bit, by rw [trues_len, List.length_append], hcF.wide (Nat.zero_le _) (Nat.le_refl _), hcM.wide (Nat.zero_le _) (Nat.le_refl _), hcV.wide (Nat.zero_le _) (Nat.le_refl _), grown_of_below hbel, ⟨Ef.sub_of_sublist _ _ 0 (List.sublist_append_left A B), Ef.sub_of_sublist _ _ 0 (List.sublist_append_right A B), by rw [List.length_append]; omega, Or.inr (by rw [trues_len, List.length_append]), ?_, ?_, ?_, ?_⟩⟩
    · rw [show Ef.falses (trues (A.length + B.length)) = 0 from Ef.falses_rep _]; exact Nat.zero_le _
    · rintro rfl
      exact ⟨hnil.2 rfl, rfl⟩
    · intro hn
      rcases hW with ⟨h, _⟩ | ⟨rfl, _, hwl⟩
      · exact absurd h hn
      · refine ⟨fun h => hn (hnil.1 h), by show (W ++ bitsL B.length bit).length = _; rw [List.length_append, List.length_append, bitsL_len, hwl], ?_⟩
        show Ef.orAll (W ++ bitsL B.length bit) = _
        rw [Ef.orAll_app]
        unfold wantOf
        rcases Nat.eq_zero_or_pos B.length with h0 | h0
        · rw [if_neg (by omega), h0]; simp [bitsL, Ef.orAll]
        · rw [if_pos h0, show Ef.orAll (bitsL B.length bit) = bit from Ef.orAll_rep bit _ h0]
    · rcases hW with ⟨rfl, _⟩ | ⟨rfl, _, hwl⟩
      · intro x hx; cases hx
      · intro x hx
        rcases List.mem_append.1 hx with h | h
        · exact hwb x h
        · exact bitsL_lt _ _ hb x h
end Go.Proofs.Qxb6601135a
