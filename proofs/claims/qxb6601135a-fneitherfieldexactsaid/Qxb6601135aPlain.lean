/-
  The plain mathematics of quoteMarkers: no Go in sight.
-/
namespace Go.Proofs.Qxb6601135a.Pl

/-- A byte that may be offered: 1 to 8, 14 to 31. -/
def cand (n : Nat) : Bool := decide (1 ≤ n ∧ n ≤ 31 ∧ (n < 9 ∨ 13 < n))
/-- Does the text hold byte n? -/
def holds (l : List UInt8) (n : Nat) : Bool := l.any (fun c => decide (c.toNat = n))
/-- The candidates below b that the text does not hold, in order. -/
def mk (l : List UInt8) (b : Nat) : List Nat := (List.range b).filter (fun n => cand n && !holds l n)
def bytes (ns : List Nat) : List UInt8 := ns.map UInt8.ofNat

theorem holds_iff (l : List UInt8) (n : Nat) : holds l n = true ↔ ∃ c ∈ l, c.toNat = n := by
  simp [holds]
theorem holds_app (l m : List UInt8) (n : Nat) : holds (l ++ m) n = (holds l n || holds m n) := by
  simp [holds]
theorem mem_mk (l : List UInt8) (b n : Nat) : n ∈ mk l b ↔ n < b ∧ cand n = true ∧ holds l n = false := by
  simp [mk]
theorem mk_zero (l : List UInt8) : mk l 0 = [] := rfl
theorem mk_one (l : List UInt8) : mk l 1 = [] := by simp [mk, cand, List.range_succ]
theorem mk_hit (l : List UInt8) (b : Nat) (h1 : cand b = true) (h2 : holds l b = false) : mk l (b + 1) = mk l b ++ [b] := by
  simp [mk, List.range_succ, h1, h2]
theorem mk_miss1 (l : List UInt8) (b : Nat) (h1 : cand b = false) : mk l (b + 1) = mk l b := by
  simp [mk, List.range_succ, h1]
theorem mk_miss2 (l : List UInt8) (b : Nat) (h2 : holds l b = true) : mk l (b + 1) = mk l b := by
  simp [mk, List.range_succ, h2]
theorem cand_big (n : Nat) (h : 32 ≤ n) : cand n = false := by simp [cand]; omega
theorem mk_big (l : List UInt8) : ∀ k, mk l (32 + k) = mk l 32
  | 0 => rfl
  | k + 1 => by rw [← Nat.add_assoc, mk_miss1 l _ (cand_big _ (by omega)), mk_big l k]
theorem mk_from (l : List UInt8) (b : Nat) (h : 32 ≤ b) : mk l b = mk l 32 := by
  have := mk_big l (b - 32); rwa [show 32 + (b - 32) = b from by omega] at this
theorem mk_prefix (l : List UInt8) (b : Nat) : ∀ k, mk l b <+: mk l (b + k)
  | 0 => List.prefix_refl _
  | k + 1 => by
    refine (mk_prefix l b k).trans ?_
    rw [← Nat.add_assoc]
    by_cases h1 : cand (b + k) = true
    · by_cases h2 : holds l (b + k) = false
      · rw [mk_hit l _ h1 h2]; exact List.prefix_append _ _
      · rw [mk_miss2 l _ (by simpa using h2)]; exact List.prefix_refl _
    · rw [mk_miss1 l _ (by simpa using h1)]; exact List.prefix_refl _
theorem mk_at (l : List UInt8) (b : Nat) (hb : b < 32) (h1 : cand b = true) (h2 : holds l b = false) : (mk l 32)[(mk l b).length]? = some b := by
  have hp := mk_prefix l (b + 1) (32 - (b + 1))
  rw [show b + 1 + (32 - (b + 1)) = 32 from by omega, mk_hit l b h1 h2] at hp
  obtain ⟨t, ht⟩ := hp
  rw [← ht, List.append_assoc, List.getElem?_append_right (Nat.le_refl _)]
  simp
theorem cand_count : ((List.range 32).filter cand).length = 26 := by decide
theorem mk_len (l : List UInt8) : (mk l 32).length ≤ 26 := by
  have e : mk l 32 = ((List.range 32).filter cand).filter (fun n => !holds l n) := by
    unfold mk; rw [List.filter_filter]; congr 1; funext n; rw [Bool.and_comm]
  rw [e, ← cand_count]
  exact List.length_filter_le _ _
theorem mk_len_le (l : List UInt8) (b : Nat) (hb : b ≤ 32) : (mk l b).length ≤ 26 := by
  have := (mk_prefix l b (32 - b)).length_le
  rw [show b + (32 - b) = 32 from by omega] at this
  exact Nat.le_trans this (mk_len l)
theorem mk_lt (l : List UInt8) (b n : Nat) (h : n ∈ mk l b) : n < 32 := by
  rw [mem_mk] at h
  have := h.2.1
  simp [cand] at this; omega

theorem toNat_byte (n : Nat) (h : n < 256) : (UInt8.ofNat n).toNat = n := by
  simp only [UInt8.toNat_ofNat']; omega
theorem holds_bytes (l : List UInt8) (n : Nat) : holds (bytes (mk l 32)) n = decide (n ∈ mk l 32) := by
  rw [Bool.eq_iff_iff, holds_iff, decide_eq_true_iff]
  constructor
  · rintro ⟨c, hc, rfl⟩
    simp only [bytes, List.mem_map] at hc
    obtain ⟨m, hm, rfl⟩ := hc
    rw [toNat_byte m (by have := mk_lt l 32 m hm; omega)]
    exact hm
  · intro h
    exact ⟨UInt8.ofNat n, List.mem_map.2 ⟨n, h, rfl⟩, toNat_byte n (by have := mk_lt l 32 n h; omega)⟩
/-- The markers written behind the text: none is left. -/
theorem used_up (l : List UInt8) : mk (l ++ bytes (mk l 32)) 32 = [] := by
  rw [List.eq_nil_iff_forall_not_mem]
  intro n hn
  rw [mem_mk, holds_app, holds_bytes] at hn
  obtain ⟨h1, h2, h3⟩ := hn
  simp only [Bool.or_eq_false_iff, decide_eq_false_iff_not] at h3
  exact h3.2 ((mem_mk l 32 n).2 ⟨h1, h2, h3.1⟩)
theorem mk_sorted (l : List UInt8) (b : Nat) : (mk l b).Pairwise (· < ·) := List.Pairwise.filter _ List.pairwise_lt_range
theorem mk_incr (l : List UInt8) (k a b : Nat) (ha : (mk l 32)[k]? = some a) (hb : (mk l 32)[k + 1]? = some b) : a < b := by
  have h := mk_sorted l 32
  rw [List.pairwise_iff_getElem] at h
  obtain ⟨h1, rfl⟩ := List.getElem?_eq_some_iff.1 ha
  obtain ⟨h2, rfl⟩ := List.getElem?_eq_some_iff.1 hb
  exact h k (k + 1) h1 h2 (by omega)
/-- The two lists part the candidates. -/
theorem parts (l : List UInt8) (n : Nat) : cand n = (decide (n ∈ mk l 32) != decide (n ∈ mk (bytes (mk l 32)) 32)) ∧ (decide (n ∈ mk l 32) && decide (n ∈ mk (bytes (mk l 32)) 32)) = false := by
  have h2 : n ∈ mk (bytes (mk l 32)) 32 ↔ n < 32 ∧ cand n = true ∧ ¬ n ∈ mk l 32 := by rw [mem_mk, holds_bytes]; simp
  by_cases hm : n ∈ mk l 32
  · have hc := ((mem_mk l 32 n).1 hm).2.1
    have hn : ¬ n ∈ mk (bytes (mk l 32)) 32 := fun h => (h2.1 h).2.2 hm
    simp [hm, hn, hc]
  · by_cases hc : cand n = true
    · have hlt : n < 32 := by
        rcases Nat.lt_or_ge n 32 with h | h
        · exact h
        · rw [cand_big n h] at hc; cases hc
      have hr : n ∈ mk (bytes (mk l 32)) 32 := h2.2 ⟨hlt, hc, hm⟩
      simp [hm, hr, hc]
    · have hr : ¬ n ∈ mk (bytes (mk l 32)) 32 := fun h => hc (h2.1 h).2.1
      simp [hm, hr, hc]

/-! ### The table of held bytes -/
def heldL (l : List UInt8) : List Bool := (List.range 32).map (holds l)
theorem held_get (l : List UInt8) (n : Nat) (h : n < 32) : (heldL l)[n]? = some (holds l n) := by
  simp [heldL, h]
theorem held_len (l : List UInt8) : (heldL l).length = 32 := by simp [heldL]
theorem held_nil : heldL [] = List.replicate 32 false := by decide
theorem held_hit (l : List UInt8) (c : UInt8) (h : c.toNat < 32) : (heldL l).set c.toNat true = heldL (l ++ [c]) := by
  apply List.ext_getElem?
  intro i
  rw [List.getElem?_set]
  by_cases hi : i < 32
  · rw [held_get _ i hi, held_get _ i hi, held_len]
    by_cases e : c.toNat = i
    · rw [if_pos e, if_pos h]; simp [holds, e]
    · rw [if_neg e]; simp [holds, e]
  · rw [if_neg (by omega), List.getElem?_eq_none (by rw [held_len]; omega), List.getElem?_eq_none (by rw [held_len]; omega)]
theorem held_miss (l : List UInt8) (c : UInt8) (h : ¬ c.toNat < 32) : heldL (l ++ [c]) = heldL l := by
  apply List.ext_getElem?
  intro i
  by_cases hi : i < 32
  · rw [held_get _ i hi, held_get _ i hi, holds_app]
    simp [holds]; omega
  · rw [List.getElem?_eq_none (by rw [held_len]; omega), List.getElem?_eq_none (by rw [held_len]; omega)]

theorem take_snoc (l : List UInt8) (k : Nat) (c : UInt8) (h : l[k]? = some c) : l.take (k + 1) = l.take k ++ [c] := by
  rw [List.take_add_one, h]; rfl
theorem holds_at (l : List UInt8) (k : Nat) (c : UInt8) (h : l[k]? = some c) : holds l c.toNat = true := by
  rw [holds_iff]; exact ⟨c, List.mem_of_getElem? h, rfl⟩
theorem holds_take (l : List UInt8) (k n : Nat) (c : UInt8) (h : holds (l.take k) n = false) (hk : l[k]? = some c) (hn : c.toNat ≠ n) : holds (l.take (k + 1)) n = false := by
  rw [take_snoc l k c hk, holds_app, h]; simp [holds, hn]
end Go.Proofs.Qxb6601135a.Pl
