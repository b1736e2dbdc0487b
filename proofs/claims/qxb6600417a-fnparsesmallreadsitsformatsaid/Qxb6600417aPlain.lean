namespace Go.Proofs.Qxb6600417a.Pl

/-- An ASCII digit. -/
def isD (c : UInt8) : Bool := decide (48 ≤ c.toNat ∧ c.toNat ≤ 57)
/-- A digit's value. -/
def dv (c : UInt8) : Int := (c.toNat : Int) - 48
/-- A list of digits, read as a number. -/
def val (l : List UInt8) : Int := l.foldl (fun n c => n * 10 + dv c) 0

def whole (l : List UInt8) : List UInt8 := l.takeWhile (fun c => decide (c.toNat ≠ 46))
def rest (l : List UInt8) : List UInt8 := l.dropWhile (fun c => decide (c.toNat ≠ 46))
def frac (l : List UInt8) : List UInt8 := (rest l).tail
def pad (l : List UInt8) (p : Nat) : List UInt8 := frac l ++ List.replicate p 48
def zs (l : List UInt8) : Bool := l.all (fun c => decide (c.toNat = 48))

def okp (l : List UInt8) (p : Nat) : Bool :=
  !(whole l).isEmpty && (whole l).all isD && decide ((whole l).length + p ≤ 18) &&
    ((rest l).isEmpty || (!(frac l).isEmpty && (frac l).all isD && zs ((frac l).drop p)))
def pv (l : List UInt8) (p q : Nat) : Int := val (whole l ++ (pad l p).take q)

theorem val_snoc (l : List UInt8) (c : UInt8) : val (l ++ [c]) = val l * 10 + dv c := by
  simp [val, List.foldl_append]

theorem dv_bd (c : UInt8) (h : isD c = true) : 0 ≤ dv c ∧ dv c ≤ 9 := by
  unfold isD at h; unfold dv; simp at h; omega

theorem val_bd (l : List UInt8) (h : l.all isD = true) : 0 ≤ val l ∧ val l < 10 ^ l.length := by
  suffices ∀ (n : Int), 0 ≤ n → 0 ≤ l.foldl (fun n c => n * 10 + dv c) n ∧ l.foldl (fun n c => n * 10 + dv c) n < (n + 1) * 10 ^ l.length by
    have := this 0 (by omega); simpa [val] using this
  induction l with
  | nil => intro n hn; simp; omega
  | cons c t ih =>
    intro n hn
    simp only [List.all_cons, Bool.and_eq_true] at h
    have hd := dv_bd c h.1
    have := ih h.2 (n * 10 + dv c) (by omega)
    simp only [List.foldl_cons, List.length_cons]
    refine ⟨this.1, Int.lt_of_lt_of_le this.2 ?_⟩
    have e : (n + 1) * (10 : Int) ^ (t.length + 1) = ((n + 1) * 10) * 10 ^ t.length := by
      rw [Int.pow_succ, Int.mul_comm ((10 : Int) ^ t.length) 10, Int.mul_assoc]
    rw [e]
    exact Int.mul_le_mul_of_nonneg_right (by omega) (Int.pow_nonneg (by omega))

theorem pow_mono (a b : Nat) (h : a ≤ b) : (10 : Int) ^ a ≤ 10 ^ b := by
  have := Nat.pow_le_pow_right (n := 10) (by omega) h
  exact_mod_cast this

theorem val_lt (l : List UInt8) (n : Nat) (h : l.all isD = true) (hl : l.length ≤ n) : 0 ≤ val l ∧ val l < 10 ^ n :=
  ⟨(val_bd l h).1, Int.lt_of_lt_of_le (val_bd l h).2 (pow_mono _ _ hl)⟩

theorem val_lt17 (l : List UInt8) (h : l.all isD = true) (hl : l.length ≤ 17) : 0 ≤ val l ∧ val l < 100000000000000000 := by
  have := val_lt l 17 h hl; simpa using this
theorem val_lt18 (l : List UInt8) (h : l.all isD = true) (hl : l.length ≤ 18) : 0 ≤ val l ∧ val l < 1000000000000000000 := by
  have := val_lt l 18 h hl; simpa using this

theorem take_snoc (l : List UInt8) (k : Nat) (c : UInt8) (h : l[k]? = some c) : l.take (k + 1) = l.take k ++ [c] := by
  rw [List.take_add_one, h]; rfl

theorem tw_of (f : UInt8 → Bool) : ∀ (l : List UInt8) (k : Nat), (l.take k).all f = true → (∀ c, l[k]? = some c → f c = false) → l.takeWhile f = l.take k ∧ l.dropWhile f = l.drop k
  | [], _, _, _ => by simp
  | c :: t, 0, _, h => by
    have := h c (by simp)
    simp [this]
  | c :: t, k + 1, ha, h => by
    simp only [List.take_succ_cons, List.all_cons, Bool.and_eq_true] at ha
    have := tw_of f t k ha.2 (fun c hc => h c (by simpa using hc))
    simp [ha.1, this]

theorem isD_ne (c : UInt8) (h : isD c = true) : c.toNat ≠ 46 := by
  unfold isD at h; simp at h; omega

theorem all_ne (l : List UInt8) (h : l.all isD = true) : l.all (fun c => decide (c.toNat ≠ 46)) = true := by
  rw [List.all_eq_true] at *
  intro c hc
  simp only [decide_eq_true_eq]
  exact isD_ne c (h c hc)

/-- All of the first k are digits; the k-th is a point, or there is none. -/
theorem cut_at (l : List UInt8) (k : Nat) (h : (l.take k).all isD = true) (hk : ∀ c, l[k]? = some c → c.toNat = 46) :
    whole l = l.take k ∧ rest l = l.drop k ∧ frac l = l.drop (k + 1) := by
  have := tw_of (fun c => decide (c.toNat ≠ 46)) l k (all_ne _ h) (fun c hc => by simp [hk c hc])
  refine ⟨this.1, this.2, ?_⟩
  unfold frac rest
  rw [this.2, List.tail_drop]

/-- All of the first k are digits; the k-th is neither digit nor point. -/
theorem bad_at (l : List UInt8) (k p : Nat) (c : UInt8) (h : (l.take k).all isD = true) (hk : l[k]? = some c) (h46 : c.toNat ≠ 46) (hd : isD c = false) :
    okp l p = false := by
  have hw : (whole l).all isD = false := by
    have hs : (l.take (k + 1)).all (fun c => decide (c.toNat ≠ 46)) = true := by
      rw [take_snoc l k c hk, List.all_append, all_ne _ h]; simp [h46]
    have hp : l.take (k + 1) <+: whole l := by
      have e : l = l.take (k + 1) ++ l.drop (k + 1) := (List.take_append_drop _ _).symm
      have : whole l = l.take (k + 1) ++ (l.drop (k + 1)).takeWhile (fun c => decide (c.toNat ≠ 46)) := by
        unfold whole
        conv => lhs; rw [e]
        rw [List.takeWhile_append_of_pos]
        intro a ha
        rw [List.all_eq_true] at hs
        exact hs a ha
      rw [this]; exact List.prefix_append _ _
    have hm : c ∈ whole l := hp.subset (by rw [take_snoc l k c hk]; simp)
    cases e : (whole l).all isD with
    | false => rfl
    | true => rw [List.all_eq_true] at e; rw [e c hm] at hd; cases hd
  simp [okp, hw]

theorem pad_get (l : List UInt8) (p q : Nat) (c : UInt8) (h : (frac l)[q]? = some c) : (pad l p)[q]? = some c := by
  unfold pad
  have : q < (frac l).length := by
    rcases Nat.lt_or_ge q (frac l).length with h' | h'
    · exact h'
    · rw [List.getElem?_eq_none h'] at h; cases h
  rw [List.getElem?_append_left this, h]

theorem pad_get48 (l : List UInt8) (p q : Nat) (h : (frac l).length ≤ q) (hq : q < p) : (pad l p)[q]? = some 48 := by
  unfold pad
  rw [List.getElem?_append_right h, List.getElem?_replicate]
  simp; omega

theorem pv_step (l : List UInt8) (p q : Nat) (c : UInt8) (h : (pad l p)[q]? = some c) : pv l p (q + 1) = pv l p q * 10 + dv c := by
  unfold pv
  rw [take_snoc _ q c h, ← List.append_assoc, val_snoc]

theorem pv_zero (l : List UInt8) (p : Nat) : pv l p 0 = val (whole l) := by simp [pv]


/-! ### The figure as it is written -/
def dg (v k : Nat) : UInt8 := UInt8.ofNat (48 + v / 10 ^ k % 10)
def run (v : Nat) : Nat → Nat → List UInt8
  | _, 0 => []
  | j, n + 1 => run v (j + 1) n ++ [dg v j]
/-- What is written when the digits from place wd - 1 down to place k have been. -/
def pre (v p wd k : Nat) : List UInt8 := if p ≤ k then run v k (wd - k) else run v p (wd - p) ++ 46 :: run v k (p - k)
def fmtL (v p e wd : Nat) : List UInt8 := pre v p wd 0 ++ (if 0 < e ∧ p = 0 then [46] else []) ++ List.replicate e 48

theorem dg_toNat (v k : Nat) : (dg v k).toNat = 48 + v / 10 ^ k % 10 := by
  unfold dg
  simp only [UInt8.toNat_ofNat']
  omega
theorem dg_isD (v k : Nat) : isD (dg v k) = true := by
  unfold isD; rw [dg_toNat]; simp; omega
theorem run_len (v : Nat) : ∀ n j, (run v j n).length = n
  | 0, _ => rfl
  | n + 1, j => by simp [run, run_len v n (j + 1)]
theorem run_isD (v : Nat) : ∀ n j, (run v j n).all isD = true
  | 0, _ => rfl
  | n + 1, j => by simp [run, run_isD v n (j + 1), dg_isD]
theorem run_val (v : Nat) : ∀ n j, val (run v j n) = ((v / 10 ^ j % 10 ^ n : Nat) : Int)
  | 0, _ => by simp [run, val, Nat.mod_one]
  | n + 1, j => by
    simp only [run]
    rw [val_snoc, run_val v n (j + 1)]
    unfold dv
    rw [dg_toNat, Nat.pow_succ 10 j, ← Nat.div_div_eq_div_mul, Nat.pow_succ, Nat.mul_comm (10 ^ n) 10, Nat.mod_mul]
    omega
theorem pre_step (v p wd k : Nat) (hk : k < wd) (hp : p < wd) : pre v p wd k = pre v p wd (k + 1) ++ (if k + 1 = p then [46, dg v k] else [dg v k]) := by
  unfold pre
  by_cases h1 : p ≤ k
  · rw [if_pos h1, if_pos (by omega), if_neg (by omega)]
    have : wd - k = (wd - (k + 1)) + 1 := by omega
    rw [this]; rfl
  · rw [if_neg h1]
    by_cases h2 : k + 1 = p
    · subst h2
      rw [if_pos (Nat.le_refl _), if_pos rfl]
      simp [run, show k + 1 - k = 1 from by omega]
    · rw [if_neg (by omega), if_neg h2]
      have : p - k = (p - (k + 1)) + 1 := by omega
      rw [this]; simp [run]
theorem pre_top (v p wd : Nat) (hp : p < wd) : pre v p wd wd = [] := by
  unfold pre; rw [if_pos (by omega)]; simp [run]
theorem pre_len (v p wd k : Nat) (_hk : k ≤ wd) (hp : p < wd) : (pre v p wd k).length = (wd - k) + (if k < p then 1 else 0) := by
  unfold pre
  split
  · rw [run_len, if_neg (by omega)]; omega
  · rw [if_pos (by omega)]; simp [run_len]; omega

theorem all_take (l : List UInt8) (n : Nat) (h : l.all isD = true) : (l.take n).all isD = true := by
  rw [List.all_eq_true] at *
  exact fun c hc => h c (List.mem_of_mem_take hc)

/-- The whole part, then a point and the fraction: what it reads as. -/
theorem reads_dot (a f : List UInt8) (p : Nat) (ha : a.all isD = true) (ha0 : a ≠ []) (hf : f.all isD = true) (hf0 : f ≠ []) (hl : a.length + p ≤ 18) (hz : zs (f.drop p) = true) :
    okp (a ++ 46 :: f) p = true ∧ pv (a ++ 46 :: f) p p = val (a ++ (f ++ List.replicate p 48).take p) := by
  have c := cut_at (a ++ 46 :: f) a.length (by simpa using ha) (by intro c hc; simp at hc; subst hc; rfl)
  have e1 : whole (a ++ 46 :: f) = a := by rw [c.1]; simp
  have e2 : rest (a ++ 46 :: f) = 46 :: f := by rw [c.2.1]; simp
  have e3 : frac (a ++ 46 :: f) = f := by unfold frac; rw [e2]; rfl
  refine ⟨?_, ?_⟩
  · unfold okp; rw [e1, e2, e3]
    simp [ha, ha0, hf, hf0, hl, hz]
  · unfold pv pad; rw [e1, e3]
/-- No point. -/
theorem reads_bare (a : List UInt8) (p : Nat) (ha : a.all isD = true) (ha0 : a ≠ []) (hl : a.length + p ≤ 18) :
    okp a p = true ∧ pv a p p = val (a ++ List.replicate p 48) := by
  have c := cut_at a a.length (by simpa using ha) (by intro c hc; simp at hc)
  have e1 : whole a = a := by rw [c.1]; simp
  have e2 : rest a = [] := by rw [c.2.1]; simp
  have e3 : frac a = [] := by unfold frac; rw [e2]; rfl
  refine ⟨?_, ?_⟩
  · unfold okp; rw [e1, e2]
    simp [ha, ha0, hl]
  · unfold pv pad; rw [e1, e3]; simp

theorem val_app (a b : List UInt8) : val (a ++ b) = val a * 10 ^ b.length + val b := by
  suffices ∀ (b : List UInt8) (n : Int), b.foldl (fun n c => n * 10 + dv c) n = n * 10 ^ b.length + val b by
    unfold val; rw [List.foldl_append]; exact this b _
  intro b
  induction b with
  | nil => intro n; simp [val]
  | cons c t ih =>
    intro n
    have e := ih (dv c)
    have e0 : val (c :: t) = dv c * 10 ^ t.length + val t := by
      show t.foldl _ (0 * 10 + dv c) = _
      rw [show (0 * 10 + dv c) = dv c from by omega]; exact e
    rw [List.foldl_cons, ih, e0, List.length_cons, Int.pow_succ, Int.add_mul]
    have : n * 10 * 10 ^ t.length = n * (10 ^ t.length * 10) := by rw [Int.mul_assoc, Int.mul_comm 10]
    rw [this]; omega

theorem rep_isD (e : Nat) : (List.replicate e (48 : UInt8)).all isD = true := by
  rw [List.all_eq_true]; intro c hc; rw [List.mem_replicate] at hc; rw [hc.2]; decide
theorem rep_zs (e : Nat) : zs (List.replicate e (48 : UInt8)) = true := by
  unfold zs; rw [List.all_eq_true]; intro c hc; rw [List.mem_replicate] at hc; rw [hc.2]; decide

theorem ne_of_len (l : List UInt8) (h : 0 < l.length) : l ≠ [] := by intro e; rw [e] at h; simp at h

/-- THE PLAIN LAW: the figure as it is written reads back as itself. -/
theorem fmt_reads (v p e wd : Nat) (hp : p < wd) (hw : wd ≤ 18) (hv : v < 10 ^ wd) :
    okp (fmtL v p e wd) p = true ∧ pv (fmtL v p e wd) p p = (v : Int) := by
  by_cases h0 : p = 0
  · subst h0
    have hpre : pre v 0 wd 0 = run v 0 wd := by simp [pre]
    have hval : val (run v 0 wd) = (v : Int) := by rw [run_val, Nat.pow_zero, Nat.div_one, Nat.mod_eq_of_lt hv]
    by_cases he : 0 < e
    · have : fmtL v 0 e wd = run v 0 wd ++ 46 :: List.replicate e 48 := by simp [fmtL, hpre, he]
      rw [this]
      have := reads_dot (run v 0 wd) (List.replicate e 48) 0 (run_isD v wd 0) (ne_of_len _ (by rw [run_len]; omega)) (rep_isD e) (ne_of_len _ (by simpa using he)) (by rw [run_len]; omega) (by simpa using rep_zs e)
      refine ⟨this.1, ?_⟩
      rw [this.2]; simpa using hval
    · obtain rfl : e = 0 := by omega
      have : fmtL v 0 0 wd = run v 0 wd := by simp [fmtL, hpre]
      rw [this]
      have := reads_bare (run v 0 wd) 0 (run_isD v wd 0) (ne_of_len _ (by rw [run_len]; omega)) (by rw [run_len]; omega)
      refine ⟨this.1, ?_⟩
      rw [this.2]; simpa using hval
  · have hpre : pre v p wd 0 = run v p (wd - p) ++ 46 :: run v 0 p := by unfold pre; rw [if_neg (by omega)]; rfl
    have : fmtL v p e wd = run v p (wd - p) ++ 46 :: (run v 0 p ++ List.replicate e 48) := by simp [fmtL, hpre, h0]
    rw [this]
    have hl0 := run_len v p 0
    have := reads_dot (run v p (wd - p)) (run v 0 p ++ List.replicate e 48) p (run_isD v _ p) (ne_of_len _ (by rw [run_len]; omega)) (by rw [List.all_append, run_isD, rep_isD]; rfl) (ne_of_len _ (by simp [run_len]; omega)) (by rw [run_len]; omega)
      (by rw [List.drop_append, hl0]; rw [List.drop_of_length_le (by omega)]; simpa using rep_zs e)
    refine ⟨this.1, ?_⟩
    rw [this.2, List.append_assoc, List.take_append, hl0, List.take_of_length_le (by omega)]
    simp only [Nat.sub_self, List.take_zero, List.append_nil]
    rw [val_app, run_val, run_val, hl0, Nat.pow_zero, Nat.div_one]
    have h1 : v / 10 ^ p % 10 ^ (wd - p) = v / 10 ^ p := by
      apply Nat.mod_eq_of_lt
      rw [Nat.div_lt_iff_lt_mul (Nat.pow_pos (by omega)), ← Nat.pow_add]
      rwa [show wd - p + p = wd from by omega]
    rw [h1]
    have h2 := Nat.div_add_mod v (10 ^ p)
    have h3 : ((v / 10 ^ p : Nat) : Int) * 10 ^ p + ((v % 10 ^ p : Nat) : Int) = ((10 ^ p * (v / 10 ^ p) + v % 10 ^ p : Nat) : Int) := by
      rw [Nat.mul_comm]; push_cast; rfl
    rw [h3, h2]

/-! ### What the reader's steps come to -/
def psV (l : List UInt8) (p : Nat) : Int := if okp l p = true then pv l p p else 0
theorem psV_no (l : List UInt8) (p : Nat) (h : okp l p = false) : psV l p = 0 := by simp [psV, h]
theorem psV_yes (l : List UInt8) (p : Nat) (h : okp l p = true) : psV l p = pv l p p := by simp [psV, h]

theorem isD_of (c : UInt8) (h : ((c.toNat : Int) - 48) % 256 ≤ 9) : isD c = true := by
  have := c.toNat_lt; unfold isD; simp; omega
theorem isD_not (c : UInt8) (h : 9 < ((c.toNat : Int) - 48) % 256) : isD c = false := by
  have := c.toNat_lt; unfold isD; simp; omega

theorem all_snoc (l : List UInt8) (k : Nat) (c : UInt8) (h : (l.take k).all isD = true) (hk : l[k]? = some c) (hc : isD c = true) : (l.take (k + 1)).all isD = true := by
  rw [take_snoc l k c hk, List.all_append, h]; simp [hc]
theorem val_take (l : List UInt8) (k : Nat) (c : UInt8) (hk : l[k]? = some c) : val (l.take (k + 1)) = val (l.take k) * 10 + dv c := by
  rw [take_snoc l k c hk, val_snoc]

theorem okp_zero (l : List UInt8) (p : Nat) (hk : ∀ c, l[0]? = some c → c.toNat = 46) : okp l p = false := by
  have := cut_at l 0 rfl hk
  simp [okp, this.1]
theorem okp_long (l : List UInt8) (k p : Nat) (hkl : k ≤ l.length) (h : (l.take k).all isD = true) (hk : ∀ c, l[k]? = some c → c.toNat = 46) (h18 : 18 < k + p) : okp l p = false := by
  have := cut_at l k h hk
  have hl : (whole l).length = k := by rw [this.1, List.length_take]; omega
  simp [okp, hl]; omega
theorem okp_bare (l : List UInt8) (p : Nat) (h : l.all isD = true) (h0 : 0 < l.length) (h18 : l.length + p ≤ 18) : okp l p = true :=
  (reads_bare l p h (ne_of_len _ h0) h18).1
theorem okp_dot (l : List UInt8) (k p : Nat) (hkl : k < l.length) (h : (l.take k).all isD = true) (hk : ∀ c, l[k]? = some c → c.toNat = 46) (h0 : k ≠ 0) (h18 : k + p ≤ 18) :
    okp l p = (!(frac l).isEmpty && (frac l).all isD && zs ((frac l).drop p)) := by
  have := cut_at l k h hk
  have hl : (whole l).length = k := by rw [this.1, List.length_take]; omega
  have hw : (whole l).all isD = true := by rw [this.1]; exact h
  have hw0 : (whole l).isEmpty = false := by
    cases e : whole l with
    | nil => rw [e] at hl; simp at hl; omega
    | cons _ _ => rfl
  have hr : (rest l).isEmpty = false := by
    rw [this.2.1]
    cases e : l.drop k with
    | nil => have := congrArg List.length e; simp at this; omega
    | cons _ _ => rfl
  simp [okp, hl, hw, hw0, hr, h18]

theorem all_false_of (l : List UInt8) (f : UInt8 → Bool) (j : Nat) (c : UInt8) (h : l[j]? = some c) (hc : f c = false) : l.all f = false := by
  cases e : l.all f with
  | false => rfl
  | true =>
    rw [List.all_eq_true] at e
    rw [e c (List.mem_of_getElem? h)] at hc; cases hc
theorem zs_false_of (l : List UInt8) (p j : Nat) (c : UInt8) (h : l[j]? = some c) (hj : p ≤ j) (hc : c.toNat ≠ 48) : zs (l.drop p) = false := by
  unfold zs
  refine all_false_of _ _ (j - p) c ?_ (by simpa using hc)
  rw [List.getElem?_drop, show p + (j - p) = j from by omega, h]
theorem zs_snoc (l : List UInt8) (p j : Nat) (c : UInt8) (h : l[j]? = some c) (hz : zs ((l.take j).drop p) = true) (hc : p ≤ j → c.toNat = 48) : zs ((l.take (j + 1)).drop p) = true := by
  rw [take_snoc l j c h]
  have hj : j < l.length := by
    rcases Nat.lt_or_ge j l.length with h' | h'
    · exact h'
    · rw [List.getElem?_eq_none h'] at h; cases h
  by_cases hp : p ≤ j
  · rw [List.drop_append_of_le_length (by rw [List.length_take]; omega)]
    unfold zs at *
    rw [List.all_append, hz]; simp [hc hp]
  · rw [List.drop_of_length_le (by simp; omega)]; rfl

theorem pv_bd (l : List UInt8) (p q n : Nat) (hw : (whole l).all isD = true) (hp : ((pad l p).take q).all isD = true) (hn : (whole l).length + q ≤ n) :
    0 ≤ pv l p q ∧ pv l p q < 10 ^ n :=
  val_lt _ n (by rw [List.all_append, hw, hp]; rfl) (by simp; omega)

/-! ### A text without a point -/
def noDot (l : List UInt8) : Bool := l.all (fun c => decide (c.toNat ≠ 46))
def isDg (l : List UInt8) : Bool := !l.isEmpty && l.all isD
theorem bare_cut (l : List UInt8) (h : noDot l = true) : whole l = l ∧ rest l = [] := by
  have := tw_of (fun c => decide (c.toNat ≠ 46)) l l.length (by rw [List.take_length]; exact h) (fun c hc => by rw [List.getElem?_eq_none (Nat.le_refl _)] at hc; cases hc)
  refine ⟨?_, ?_⟩
  · unfold whole; rw [this.1, List.take_length]
  · unfold rest; rw [this.2, List.drop_length]
theorem ok_bare (l : List UInt8) (h : noDot l = true) : okp l 0 = (isDg l && decide (l.length ≤ 18)) := by
  have := bare_cut l h
  simp [okp, isDg, this.1, this.2]
theorem dot_zero (l : List UInt8) (h : noDot l = true) (ho : okp l 0 = true) : okp (l ++ [46, 48]) 0 = true ∧ psV (l ++ [46, 48]) 0 = psV l 0 := by
  have hb := ok_bare l h
  rw [ho] at hb
  have hb := hb.symm
  simp only [isDg, Bool.and_eq_true, Bool.not_eq_true', decide_eq_true_eq] at hb
  obtain ⟨⟨h1, h2⟩, h3⟩ := hb
  have hne : l ≠ [] := by intro e; rw [e] at h1; cases h1
  have r1 := reads_dot l [48] 0 h2 hne (by decide) (by decide) (by omega) (by decide)
  have r2 := reads_bare l 0 h2 hne (by omega)
  refine ⟨r1.1, ?_⟩
  rw [psV_yes _ _ r1.1, psV_yes _ _ ho, r1.2, r2.2]
  simp
theorem noDot_snoc (l : List UInt8) (k : Nat) (c : UInt8) (h : noDot (l.take k) = true) (hk : l[k]? = some c) (hc : c.toNat ≠ 46) : noDot (l.take (k + 1)) = true := by
  unfold noDot at *
  rw [take_snoc l k c hk, List.all_append, h]; simp [hc]

/-! ### The model's steps -/
def allD (l : List UInt8) : Bool := l.all isD
def dval (c : UInt8) : Int := if isD c = true then dv c else 0
theorem dval_yes (c : UInt8) (h : isD c = true) : dval c = dv c := by simp [dval, h]
theorem dval_no (c : UInt8) (h : isD c = false) : dval c = 0 := by simp [dval, h]
theorem cut_dot (l : List UInt8) (k : Nat) (h : noDot (l.take k) = true) (hk : ∀ c, l[k]? = some c → c.toNat = 46) :
    whole l = l.take k ∧ rest l = l.drop k ∧ frac l = l.drop (k + 1) := by
  have := tw_of (fun c => decide (c.toNat ≠ 46)) l k h (fun c hc => by simp [hk c hc])
  refine ⟨this.1, this.2, ?_⟩
  unfold frac rest
  rw [this.2, List.tail_drop]
theorem okp_no1 (l : List UInt8) (p : Nat) (h : (whole l).isEmpty = true) : okp l p = false := by simp [okp, h]
theorem okp_no2 (l : List UInt8) (p : Nat) (h : (whole l).all isD = false) : okp l p = false := by simp [okp, h]
theorem okp_no3 (l : List UInt8) (p : Nat) (h : ¬ (whole l).length + p ≤ 18) : okp l p = false := by simp [okp, h]
theorem okp_no4 (l : List UInt8) (p : Nat) (hr : (rest l).isEmpty = false) (h : (frac l).isEmpty = true) : okp l p = false := by simp [okp, hr, h]
theorem okp_no5 (l : List UInt8) (p : Nat) (hr : (rest l).isEmpty = false) (h : (frac l).all isD = false) : okp l p = false := by simp [okp, hr, h]
theorem okp_no6 (l : List UInt8) (p : Nat) (hr : (rest l).isEmpty = false) (h : zs ((frac l).drop p) = false) : okp l p = false := by simp [okp, hr, h]
theorem okp_yes (l : List UInt8) (p : Nat) (h1 : (whole l).isEmpty = false) (h2 : (whole l).all isD = true) (h3 : (whole l).length + p ≤ 18)
    (h4 : (rest l).isEmpty = true ∨ ((frac l).isEmpty = false ∧ (frac l).all isD = true ∧ zs ((frac l).drop p) = true)) : okp l p = true := by
  rcases h4 with h4 | ⟨h4, h5, h6⟩
  · simp [okp, h1, h2, h3, h4]
  · simp [okp, h1, h2, h3, h4, h5, h6]
theorem val_one (c : UInt8) (l : List UInt8) : val (c :: l) = dv c * 10 ^ l.length + val l := by
  have := val_app [c] l
  rw [List.singleton_append] at this
  rw [this]
  have e : val [c] = dv c := by simp [val]
  rw [e]
theorem drop_one (l : List UInt8) (t : Nat) (c : UInt8) (h : l[t]? = some c) : l.drop t = c :: l.drop (t + 1) := by
  have hl : t < l.length := by
    rcases Nat.lt_or_ge t l.length with h' | h'
    · exact h'
    · rw [List.getElem?_eq_none h'] at h; cases h
  rw [List.drop_eq_getElem_cons hl]
  rw [List.getElem?_eq_getElem hl] at h
  cases h
  rfl
theorem val_drop (l : List UInt8) (t : Nat) (c : UInt8) (h : l[t]? = some c) : val (l.drop t) = dv c * 10 ^ (l.length - (t + 1)) + val (l.drop (t + 1)) := by
  rw [drop_one l t c h, val_one, List.length_drop]
theorem all_drop (l : List UInt8) (n : Nat) (h : l.all isD = true) : (l.drop n).all isD = true := by
  rw [List.all_eq_true] at *
  exact fun c hc => h c (List.mem_of_mem_drop hc)
theorem pad_all (l : List UInt8) (p : Nat) (h : (frac l).all isD = true) : (pad l p).all isD = true := by
  unfold pad; rw [List.all_append, h, rep_isD]; rfl
theorem pad_len (l : List UInt8) (p : Nat) : p ≤ (pad l p).length := by unfold pad; simp
end Go.Proofs.Qxb6600417a.Pl
