/-
  The plain mathematics of eitherField: no Go in sight. Strings are told apart by a test 'eq' that is true just of equal ones.
-/
namespace Go.Proofs.Qxb6601135a.Ef

/-- Where each field of the first list stands in the second, each at the first place behind the one before. -/
def sub {α : Type} [DecidableEq α] : List α → List α → Nat → List Nat
  | [], _, _ => []
  | _ :: _, [], _ => []
  | x :: a, y :: b, j => if x = y then j :: sub a b (j + 1) else sub (x :: a) b (j + 1)

theorem sub_nil_right {α : Type} [DecidableEq α] (a : List α) (j : Nat) : sub a [] j = [] := by cases a <;> rfl
theorem sub_nil_left {α : Type} [DecidableEq α] (b : List α) (j : Nat) : sub ([] : List α) b j = [] := by cases b <;> rfl
theorem sub_hit {α : Type} [DecidableEq α] (x : α) (a b : List α) (j : Nat) : sub (x :: a) (x :: b) j = j :: sub a b (j + 1) := by simp [sub]
theorem sub_miss {α : Type} [DecidableEq α] (x y : α) (a b : List α) (j : Nat) (h : x ≠ y) : sub (x :: a) (y :: b) j = sub (x :: a) b (j + 1) := by simp [sub, h]

theorem sub_len_le {α : Type} [DecidableEq α] : ∀ (b a : List α) (j : Nat), (sub a b j).length ≤ a.length
  | [], a, j => by rw [sub_nil_right]; simp
  | y :: b, [], j => by simp [sub]
  | y :: b, x :: a, j => by
    by_cases h : x = y
    · subst h; rw [sub_hit]; simp; exact sub_len_le b a (j + 1)
    · rw [sub_miss x y a b j h]; exact sub_len_le b (x :: a) (j + 1)
/-- One more field of the second list. -/
theorem sub_snoc {α : Type} [DecidableEq α] : ∀ (b a : List α) (j : Nat) (y : α), sub a (b ++ [y]) j = sub a b j ++ (if a[(sub a b j).length]? = some y then [j + b.length] else [])
  | [], [], j, y => by simp [sub]
  | [], x :: a, j, y => by
    by_cases h : x = y
    · subst h
      rw [List.nil_append, sub_hit, sub_nil_right, sub_nil_right]; simp
    · rw [List.nil_append, sub_miss x y _ _ j h, sub_nil_right, sub_nil_right]; simp [h]
  | z :: b, [], j, y => by simp [sub]
  | z :: b, x :: a, j, y => by
    have e : j + (z :: b).length = j + 1 + b.length := by simp; omega
    rw [e]
    by_cases h : x = z
    · subst h
      rw [List.cons_append, sub_hit, sub_hit, sub_snoc b a (j + 1) y]
      rfl
    · rw [List.cons_append, sub_miss x z _ _ j h, sub_miss x z _ _ j h, sub_snoc b (x :: a) (j + 1) y]
theorem sub_lt {α : Type} [DecidableEq α] : ∀ (b a : List α) (j p : Nat), p ∈ sub a b j → j ≤ p ∧ p < j + b.length
  | [], a, j, p, h => by rw [sub_nil_right] at h; cases h
  | y :: b, [], j, p, h => by simp [sub] at h
  | y :: b, x :: a, j, p, h => by
    by_cases e : x = y
    · subst e
      rw [sub_hit] at h
      rcases List.mem_cons.1 h with h | h
      · subst h; simp
      · have := sub_lt b a (j + 1) p h; simp; omega
    · rw [sub_miss x y _ _ j e] at h
      have := sub_lt b (x :: a) (j + 1) p h; simp; omega
/-- The matching finds every sublist. -/
theorem sub_of_sublist {α : Type} [DecidableEq α] : ∀ (b a : List α) (j : Nat), a.Sublist b → (sub a b j).length = a.length
  | [], a, j, h => by rw [List.sublist_nil.1 h]; rfl
  | y :: b, [], j, _ => by simp [sub]
  | y :: b, x :: a, j, h => by
    by_cases e : x = y
    · subst e
      rw [sub_hit]
      simp
      exact sub_of_sublist b a (j + 1) (List.cons_sublist_cons.1 h)
    · rw [sub_miss x y _ _ j e]
      refine sub_of_sublist b (x :: a) (j + 1) ?_
      cases h with
      | cons _ h => exact h
      | cons_cons _ h => exact absurd rfl e

/-! ### The marks -/
def falses (l : List Bool) : Nat := (l.filter (fun b => !b)).length
theorem falses_snoc (l : List Bool) (b : Bool) : falses (l ++ [b]) = falses l + (if b = true then 0 else 1) := by
  cases b <;> simp [falses, List.filter_append]
theorem falses_rep (n : Nat) : falses (List.replicate n true) = 0 := by
  simp [falses]
theorem falses_cons (b : Bool) (l : List Bool) : falses (b :: l) = (if b = true then 0 else 1) + falses l := by
  cases b <;> simp [falses] ; omega
theorem falses_set : ∀ (l : List Bool) (j : Nat) (v : Bool), falses (l.set j v) ≤ falses l + (if v = true then 0 else 1)
  | [], j, v => by simp [falses]
  | b :: l, 0, v => by
    rw [List.set_cons_zero, falses_cons, falses_cons]; omega
  | b :: l, j + 1, v => by
    rw [List.set_cons_succ, falses_cons, falses_cons]
    have := falses_set l j v; omega
/-- The first k stores of 'l[ps[i]] = f i'. -/
def fill (l : List Bool) (ps : List Nat) (f : Nat → Bool) : Nat → List Bool
  | 0 => l
  | k + 1 => (fill l ps f k).set (ps.getD k 0) (f k)
theorem fill_len (l : List Bool) (ps : List Nat) (f : Nat → Bool) : ∀ k, (fill l ps f k).length = l.length
  | 0 => rfl
  | k + 1 => by simp [fill, fill_len l ps f k]
theorem fill_falses (l : List Bool) (ps : List Nat) (f : Nat → Bool) : ∀ k, falses (fill l ps f k) ≤ falses l + ((List.range k).map f |> falses)
  | 0 => by simp [fill, falses]
  | k + 1 => by
    have h := falses_set (fill l ps f k) (ps.getD k 0) (f k)
    have h2 := fill_falses l ps f k
    simp only [fill]
    rw [List.range_succ, List.map_append, List.map_singleton, falses_snoc]
    omega

/-! ### The ways -/
def orAll (l : List Nat) : Nat := l.foldl (fun o x => o ||| x) 0
theorem orAll_snoc (l : List Nat) (x : Nat) : orAll (l ++ [x]) = orAll l ||| x := by simp [orAll, List.foldl_append]
theorem or_fold (l : List Nat) : ∀ o, l.foldl (fun o x => o ||| x) o = o ||| orAll l := by
  induction l with
  | nil => intro o; simp [orAll]
  | cons x l ih =>
    intro o
    have e : orAll (x :: l) = x ||| orAll l := by
      show l.foldl _ (0 ||| x) = _
      rw [ih, Nat.zero_or]
    rw [List.foldl_cons, ih, e, Nat.or_assoc]
theorem orAll_cons (x : Nat) (l : List Nat) : orAll (x :: l) = x ||| orAll l := by
  show l.foldl _ (0 ||| x) = _
  rw [or_fold, Nat.zero_or]
theorem orAll_app (a b : List Nat) : orAll (a ++ b) = orAll a ||| orAll b := by
  unfold orAll
  rw [List.foldl_append, or_fold b]; rfl
theorem orAll_rep (x : Nat) : ∀ n, 0 < n → orAll (List.replicate n x) = x
  | 0, h => by omega
  | 1, _ => by simp [orAll]
  | n + 2, _ => by rw [List.replicate_succ, orAll_cons, orAll_rep x (n + 1) (by omega), Nat.or_self]
theorem orAll_map (b : Nat) : ∀ l : List Nat, l ≠ [] → orAll (l.map (fun x => x ||| b)) = orAll l ||| b
  | [], h => absurd rfl h
  | [x], _ => by simp [orAll]
  | x :: y :: l, _ => by
    rw [List.map_cons, orAll_cons, orAll_map b (y :: l) (by simp), orAll_cons x, Nat.or_assoc, Nat.or_assoc]
    congr 1
    rw [Nat.or_comm b, Nat.or_assoc, Nat.or_self]
theorem orAll_set (l : List Nat) (j x : Nat) (h : j < l.length) : orAll (l.set j (l.getD j 0 ||| x)) = orAll l ||| x := by
  induction l generalizing j with
  | nil => simp at h
  | cons y l ih =>
    cases j with
    | zero =>
      rw [List.set_cons_zero, orAll_cons, orAll_cons]
      show (y ||| x) ||| _ = _
      rw [Nat.or_assoc, Nat.or_comm x, ← Nat.or_assoc]
    | succ j =>
      rw [List.set_cons_succ, orAll_cons, orAll_cons]
      have := ih j (by simpa using h)
      show y ||| orAll (l.set j (l.getD j 0 ||| x)) = _
      rw [this, Nat.or_assoc]
/-- The first k stores of 'l[ps[i]] |= ws[i]'. -/
def fillW (l : List Nat) (ps ws : List Nat) : Nat → List Nat
  | 0 => l
  | k + 1 => (fillW l ps ws k).set (ps.getD k 0) ((fillW l ps ws k).getD (ps.getD k 0) 0 ||| ws.getD k 0)
theorem fillW_len (l ps ws : List Nat) : ∀ k, (fillW l ps ws k).length = l.length
  | 0 => rfl
  | k + 1 => by simp [fillW, fillW_len l ps ws k]
theorem take_snocD (ws : List Nat) (k : Nat) (h : k < ws.length) : ws.take (k + 1) = ws.take k ++ [ws.getD k 0] := by
  rw [List.take_succ_eq_append_getElem h, List.getD_eq_getElem?_getD, List.getElem?_eq_getElem h]; rfl
theorem fillW_or (l ps ws : List Nat) : ∀ k, k ≤ ws.length → (∀ i, i < k → ps.getD i 0 < l.length) → orAll (fillW l ps ws k) = orAll l ||| orAll (ws.take k)
  | 0, _, _ => by simp [fillW, orAll]
  | k + 1, h, hp => by
    simp only [fillW]
    rw [orAll_set _ _ _ (by rw [fillW_len]; exact hp k (by omega)), fillW_or l ps ws k (by omega) (fun i hi => hp i (by omega)), take_snocD ws k (by omega), orAll_snoc, Nat.or_assoc]
end Go.Proofs.Qxb6601135a.Ef
