/-
  What eitherField answers, in the words of FnEitherFieldExact, each of its three ways; rows that are filled from the front.
-/
import Derived.Test.Qxb6601135aKeepWalk
namespace Go.Proofs.Qxb6601135a
open Go.ChangeShapes Go.WideShapes Go.ChangeAt Go.RowKit
set_option linter.unusedVariables false

/-- A row whose first k cells are filled. -/
def part (V : List Value) (z : Value) (n k : Nat) : List Value := V.take k ++ zrow z (n - k)
theorem part_zero (V : List Value) (z : Value) (n : Nat) : part V z n 0 = zrow z n := by simp [part]
theorem part_get (V : List Value) (z : Value) (n k : Nat) (hl : V.length = n) (hk : k < n) : (part V z n k)[k]? = some z := by
  have h := fill_get (V.take k) z n (by rw [len_take V k (by omega)]; exact hk)
  rw [len_take V k (by omega)] at h
  exact h
theorem part_set (V : List Value) (z v : Value) (n k : Nat) (hl : V.length = n) (hv : V[k]? = some v) (hk : k < n) : (part V z n k).set k v = part V z n (k + 1) := by
  have h := fill_set (V.take k) z v n (by rw [len_take V k (by omega)]; exact hk)
  rw [← take_at V k v hv, len_take V k (by omega), len_take V (k + 1) (by omega)] at h
  exact h
theorem part_all (V : List Value) (z : Value) (n k : Nat) (hl : V.length = n) (hk : k = n) : part V z n k = V := by
  unfold part
  rw [List.take_of_length_le (by omega), hk, Nat.sub_self]
  exact List.append_nil _

theorem fresh2 (w : World) (o : Obj) (t : TypeId) (cs : List Value) : RowV ((w.alloc o).alloc (.cells cs.toArray t)) (w.heap.size + 1) t cs := by
  have h := RowV.fresh (w.alloc o) t cs
  rw [show (w.alloc o).heap.size = w.heap.size + 1 by simp] at h
  exact h

theorem S24 (a1 a2 : Option Addr) (c1 c2 l1 h1 l2 h2 n m : Nat) (X : List ByteArray) (w : World) (hX : CellsIn w l1 h1 a1 (strV X)) (hY : CellsIn w l2 h2 a2 (strV X)) (b1 : h1 ≤ w.heap.size) (b2 : h2 ≤ w.heap.size)
    (n1 : X.length ≤ 200000) (hn : n = X.length) (hm : m = X.length) :
    Calls Try.prog 24 #[.slice a1 n c1, .slice a2 m c2] w fun e w' => e = .returned (.bool true) ∧ Below w.heap.size w w' := by
  subst hn; subst hm
  refine (F24 a1 a2 c1 c2 l1 h1 l2 h2 X X w hX hY b1 b2 n1 n1).mono ?_
  rintro _ w' ⟨rfl, hb⟩
  exact ⟨ret_bool (decide_eq_true rfl), hb⟩
theorem S27 (a1 a2 : Option Addr) (c1 c2 l1 h1 l2 h2 n m : Nat) (X : List Bool) (w : World) (hX : CellsIn w l1 h1 a1 (blV X)) (hY : CellsIn w l2 h2 a2 (blV X)) (b1 : h1 ≤ w.heap.size) (b2 : h2 ≤ w.heap.size)
    (n1 : X.length ≤ 200000) (hn : n = X.length) (hm : m = X.length) :
    Calls Try.prog 27 #[.slice a1 n c1, .slice a2 m c2] w fun e w' => e = .returned (.bool true) ∧ Below w.heap.size w w' := by
  subst hn; subst hm
  refine (F27 a1 a2 c1 c2 l1 h1 l2 h2 X X w hX hY b1 b2 n1 n1).mono ?_
  rintro _ w' ⟨rfl, hb⟩
  exact ⟨ret_bool (decide_eq_true rfl), hb⟩
theorem S28 (a1 a2 : Option Addr) (c1 c2 l1 h1 l2 h2 n m : Nat) (X : List Nat) (w : World) (hX : CellsIn w l1 h1 a1 (wdV X)) (hY : CellsIn w l2 h2 a2 (wdV X)) (b1 : h1 ≤ w.heap.size) (b2 : h2 ≤ w.heap.size)
    (n1 : X.length ≤ 200000) (hn : n = X.length) (hm : m = X.length) :
    Calls Try.prog 28 #[.slice a1 n c1, .slice a2 m c2] w fun e w' => e = .returned (.bool true) ∧ Below w.heap.size w w' := by
  subst hn; subst hm
  refine (F28 a1 a2 c1 c2 l1 h1 l2 h2 X X w hX hY b1 b2 n1 n1).mono ?_
  rintro _ w' ⟨rfl, hb⟩
  exact ⟨ret_bool (decide_eq_true rfl), hb⟩

def ExP (nF nG : Bool) (nf ng nv : Nat) (aW : Option Addr) (gW : Nat) (EF : List ByteArray) (EG : List Bool) (EV WA : List Nat) (w : World) (e : Ending) (w' : World) : Prop :=
  ∃ aF cF aG cG aV cV, e = .returned (.tuple #[.slice aF nf cF, .slice aG ng cG, .slice aV nv cV]) ∧
    CellsIn w' 0 w'.heap.size aF (strV EF) ∧ CellsIn w' 0 w'.heap.size aG (blV EG) ∧ CellsIn w' 0 w'.heap.size aV (wdV EV) ∧
    aF.isNone = nF ∧ aG.isNone = nG ∧ aV.isNone = aW.isNone ∧ w.grownBy w' (some gW) ∧ CellsIn w' 0 w'.heap.size aW (wdV WA)

theorem row_cells {w : World} {g : Nat} {aW : Option Addr} {W : List Nat} {V : List Nat} (hW : (aW = none ∧ W = []) ∨ (aW = some ⟨g, 0, none⟩ ∧ RowV w g 35 (wdV W))) : CellsIn w 0 w.heap.size aW (wdV W) := by
  rcases hW with ⟨rfl, rfl⟩ | ⟨rfl, h⟩
  · exact CellsIn.nil _ _ _ _
  · exact h.cellsAll.wide (Nat.zero_le _) h.lt

theorem ex1 (aA aL aW aB : Option Addr) (gW l1 h1 l2 h2 l3 h3 bit : Nat) (A B : List ByteArray) (L : List Bool) (W : List Nat) (w : World) (hA : CellsIn w l1 h1 aA (strV A)) (hB : CellsIn w l2 h2 aB (strV B)) (hL : CellsIn w l3 h3 aL (blV L)) (b1 : h1 ≤ w.heap.size) (b2 : h2 ≤ w.heap.size) (b3 : h3 ≤ w.heap.size)
    (o1 : h1 ≤ gW ∨ gW < l1) (o3 : h3 ≤ gW ∨ gW < l3)
    (n1 : A.length ≤ 70000) (n2 : W.length ≤ 70000) (hb : bit < 18446744073709551616) (hwb : ∀ x ∈ W, x < 18446744073709551616)
    (hW : (aW = none ∧ W = []) ∨ (aW = some ⟨gW, 0, none⟩ ∧ RowV w gW 35 (wdV W))) (M : List Nat) (hM : M = W.map (fun y => y ||| bit)) (hAB : A = B) :
    Calls Try.prog 34 #[.slice aA A.length A.length, .slice aL L.length L.length, .slice aW W.length W.length, .slice aB B.length B.length, .int .u64 (bit : Int)] w (ExP aA.isNone aL.isNone A.length L.length W.length aW gW A L M M w) := by
  subst hM hAB
  refine (E1 aA aL aW aB gW l1 h1 l2 h2 L.length bit A W w hA hB b1 b2 n1 n2 hb hwb hW).mono ?_
  rintro e w' ⟨rfl, hg, hrow⟩
  have hsz := hg.size
  have hcA := (grown_keep hA hg o1 b1).wide (Nat.zero_le _) (show h1 ≤ w'.heap.size by omega)
  have hcL := (grown_keep hL hg o3 b3).wide (Nat.zero_le _) (show h3 ≤ w'.heap.size by omega)
  have hcW : CellsIn w' 0 w'.heap.size aW (wdV (W.map (fun y => y ||| bit))) := by
    rcases hW with ⟨rfl, rfl⟩ | ⟨rfl, hr⟩
    · exact CellsIn.nil _ _ _ _
    · have hr' := hrow (by simp)
      exact hr'.cellsAll.wide (Nat.zero_le _) hr'.lt
  exact ⟨aA, _, aL, _, aW, _, rfl, hcA, hcL, hcW, rfl, rfl, rfl, hg, hcW⟩

theorem ex2 (aA aL aW aB : Option Addr) (gW l1 h1 l2 h2 nL bit n nv : Nat) (A B : List ByteArray) (W : List Nat) (w : World) (hA : CellsIn w l1 h1 aA (strV A)) (hB : CellsIn w l2 h2 aB (strV B)) (b1 : h1 ≤ w.heap.size) (b2 : h2 ≤ w.heap.size)
    (n1 : A.length ≤ 70000) (n3 : B.length ≤ 70000) (n2 : W.length ≤ 70000) (hb : bit < 18446744073709551616)
    (hW : (aW = none ∧ W = []) ∨ (aW = some ⟨gW, 0, none⟩ ∧ RowV w gW 35 (wdV W)))
    (hne : A ≠ B) (hns : (Ef.sub A B 0).length ≠ A.length) (hn : n = A.length + B.length) (EF : List ByteArray) (EG : List Bool) (EV : List Nat) (hEF : EF = A ++ B) (hEG : EG = trues n) (hEV : EV = waysOut aW W B.length bit) (hnv : nv = EV.length) :
    Calls Try.prog 34 #[.slice aA A.length A.length, .slice aL nL nL, .slice aW W.length W.length, .slice aB B.length B.length, .int .u64 (bit : Int)] w (ExP false false n n nv aW gW EF EG EV W w) := by
  subst hnv hEF hEG hn hEV
  refine (E2 aA aL aW aB gW l1 h1 l2 h2 nL bit A B W w hA hB b1 b2 n1 n3 n2 hb hW hne hns).mono ?_
  rintro e w' ⟨adF, cF, adL, aW', cW', rfl, hcF, hcM, hnil, hcV, hbel⟩
  have hsz := hbel.size
  exact ⟨some adF, cF, some adL, _, aW', cW', rfl, hcF.wide (Nat.zero_le _) (Nat.le_refl _), hcM.wide (Nat.zero_le _) (Nat.le_refl _), hcV.wide (Nat.zero_le _) (Nat.le_refl _), rfl, rfl, isNone_iff hnil, grown_of_below hbel, ((row_cells (V := W) hW).below hbel (Nat.le_refl _)).wide (Nat.zero_le _) hsz⟩

theorem ex3 (aA aL aW aB : Option Addr) (gW l1 h1 l2 h2 l3 h3 bit nv : Nat) (A B : List ByteArray) (L : List Bool) (W : List Nat) (w : World) (hA : CellsIn w l1 h1 aA (strV A)) (hB : CellsIn w l2 h2 aB (strV B)) (hL : CellsIn w l3 h3 aL (blV L)) (b1 : h1 ≤ w.heap.size) (b2 : h2 ≤ w.heap.size) (b3 : h3 ≤ w.heap.size)
    (n1 : A.length ≤ 70000) (n3 : B.length ≤ 70000) (n2 : W.length ≤ 70000) (hb : bit < 18446744073709551616) (hwb : ∀ x ∈ W, x < 18446744073709551616)
    (hLl : (aL = none ∧ L = []) ∨ (∃ ad, aL = some ad) ∧ L.length = A.length)
    (hW : (aW = none ∧ W = []) ∨ (aW = some ⟨gW, 0, none⟩ ∧ RowV w gW 35 (wdV W) ∧ W.length = A.length))
    (hne : A ≠ B) (hns : (Ef.sub A B 0).length = A.length) (EG : List Bool) (EV : List Nat) (hEG : EG = marksOut A B L) (hEV : EV = waysOut3 aW A B W bit) (hnv : nv = EV.length) :
    Calls Try.prog 34 #[.slice aA A.length A.length, .slice aL L.length L.length, .slice aW W.length W.length, .slice aB B.length B.length, .int .u64 (bit : Int)] w (ExP aB.isNone false B.length B.length nv aW gW B EG EV W w) := by
  subst hnv hEG hEV
  have hW0 : (aW = none ∧ W = []) ∨ (aW = some ⟨gW, 0, none⟩ ∧ RowV w gW 35 (wdV W)) := by
    rcases hW with h | ⟨h, h', _⟩
    · exact Or.inl h
    · exact Or.inr ⟨h, h'⟩
  refine (E3 aA aL aW aB gW l1 h1 l2 h2 l3 h3 bit A B L W w hA hB hL b1 b2 b3 n1 n3 n2 hb hwb hLl hW hne hns).mono ?_
  rintro e w' ⟨adL, aW', cW', rfl, hcM, hnil, hcV, hbel⟩
  have hsz := hbel.size
  exact ⟨aB, _, some adL, B.length, aW', cW', rfl, (hB.below hbel b2).wide (Nat.zero_le _) (by omega), hcM.wide (Nat.zero_le _) (Nat.le_refl _), hcV.wide (Nat.zero_le _) (Nat.le_refl _), rfl, rfl, isNone_iff hnil, grown_of_below hbel, ((row_cells (V := W) hW0).below hbel (Nat.le_refl _)).wide (Nat.zero_le _) hsz⟩
end Go.Proofs.Qxb6601135a
