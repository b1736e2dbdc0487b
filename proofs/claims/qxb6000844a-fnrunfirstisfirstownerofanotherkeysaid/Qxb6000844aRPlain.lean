/-
  The plain mathematics of run.first: no Go in sight.
-/
namespace Go.Proofs.Qxb6000844a.Rf

/-- For each element the index of the first behind it of another key, or the number of elements. -/
def nx {α : Type} [DecidableEq α] : List α → Int → List Int
  | [], _ => []
  | [_], j => [j + 1]
  | x :: y :: r, j => (if y = x then (nx (y :: r) (j + 1)).headD 0 else j + 1) :: nx (y :: r) (j + 1)
theorem nx_one {α : Type} [DecidableEq α] (x : α) (j : Int) : nx [x] j = [j + 1] := rfl
theorem nx_cons {α : Type} [DecidableEq α] (x y : α) (r : List α) (j : Int) : nx (x :: y :: r) j = (if y = x then (nx (y :: r) (j + 1)).headD 0 else j + 1) :: nx (y :: r) (j + 1) := rfl
theorem nx_head {α : Type} [DecidableEq α] : ∀ (r : List α) (x : α) (j : Int), ∃ t, nx (x :: r) j = (j + 1 + ((r.takeWhile (fun y => decide (y = x))).length : Nat)) :: t
  | [], x, j => ⟨[], by simp [nx_one]⟩
  | y :: r, x, j => by
    obtain ⟨t, ht⟩ := nx_head r y (j + 1)
    by_cases h : y = x
    · subst h
      refine ⟨nx (y :: r) (j + 1), ?_⟩
      rw [nx_cons, if_pos rfl, ht]
      simp
      omega
    · exact ⟨nx (y :: r) (j + 1), by rw [nx_cons, if_neg h]; simp [h]⟩
/-- Where the first element of another key stands. -/
def at_ {α : Type} [DecidableEq α] (K : List α) (key : α) : Nat := (K.takeWhile (fun y => decide (y = key))).length
theorem at_le {α : Type} [DecidableEq α] (K : List α) (key : α) : at_ K key ≤ K.length := by
  unfold at_
  exact (List.takeWhile_sublist _).length_le
theorem at_eq {α : Type} [DecidableEq α] (x : α) (r : List α) : at_ (x :: r) x = 1 + (r.takeWhile (fun y => decide (y = x))).length := by
  simp [at_]; omega
theorem at_ne {α : Type} [DecidableEq α] (x key : α) (r : List α) (h : x ≠ key) : at_ (x :: r) key = 0 := by
  simp [at_, h]
/-- What first answers. -/
def ans {α : Type} [DecidableEq α] (K : List α) (O : List Int) (key : α) : Int := if at_ K key < K.length then O.getD (at_ K key) 0 else -1
/-- The first j elements all have the key. -/
theorem at_hit {α : Type} [DecidableEq α] : ∀ (K : List α) (key : α) (j : Nat) (x : α), K[j]? = some x → x ≠ key → (∀ (i : Nat) (y : α), i < j → K[i]? = some y → y = key) → at_ K key = j
  | [], key, j, x, h, _, _ => by simp at h
  | z :: K, key, 0, x, h, hn, _ => by
    simp at h; subst h
    exact at_ne z key K hn
  | z :: K, key, j + 1, x, h, hn, ha => by
    have hz : z = key := ha 0 z (by omega) rfl
    subst hz
    have ih := at_hit K z j x (by simpa using h) hn (fun i y hi hy => ha (i + 1) y (by omega) (by simpa using hy))
    unfold at_ at ih ⊢
    simp [ih]
theorem at_none {α : Type} [DecidableEq α] : ∀ (K : List α) (key : α), (∀ (i : Nat) (y : α), K[i]? = some y → y = key) → at_ K key = K.length
  | [], key, _ => rfl
  | z :: K, key, ha => by
    have hz : z = key := ha 0 z rfl
    subst hz
    have ih := at_none K z (fun i y hy => ha (i + 1) y (by simpa using hy))
    unfold at_ at ih ⊢
    simp [ih]
end Go.Proofs.Qxb6000844a.Rf
