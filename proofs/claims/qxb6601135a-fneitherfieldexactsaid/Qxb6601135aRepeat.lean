/-
  slices.Repeat at one element: a new row of that element.
-/
import Derived.Test.Qxb6601135aClone
import Derived.Laws.CopyOwn
namespace Go.Proofs.Qxb6601135a
open Go.ChangeShapes Go.WideShapes Go.ChangeAt Go.RowKit
set_option linter.unusedVariables false

theorem and_mask (n : Nat) (h : n < 4294967296) : bits .and .u64 (n : Int) 4294967295 = (n : Int) := by
  have := u64_and_nat n 4294967295 (by omega) (by omega)
  rw [show ((4294967295 : Nat) : Int) = 4294967295 from rfl] at this
  rw [this, show 4294967295 = 2 ^ 32 - 1 from rfl, Nat.and_two_pow_sub_one_eq_mod, Nat.mod_eq_of_lt h]

set_option maxHeartbeats 400000 in
theorem F46 (n : Nat) (w : World) (hn : n ≤ 400000) :
    Calls Try.prog 46 #[.int .u64 1, .int .u64 (n : Int)] w fun e w' => e = .returned (.tuple #[.int .u64 0, .int .u64 (n : Int)]) ∧ w' = w := by
  have h1 : bits .and .u64 1 4294967295 = 1 := by decide
  have h2 := and_mask n (by omega)
  have h3 : (n : Int) / 4294967296 = 0 := by omega
  have h4 : bits .and .u64 0 4294967295 = 0 := by decide
  go_enter Try.func46, Try.ntmps46
  go_wp2
  go_ret2
  exact ⟨rfl, rfl⟩

def reps (v : Value) (n : Nat) : List Value := List.replicate n v
theorem reps_len (v : Value) (n : Nat) : (reps v n).length = n := by simp [reps]
theorem reps_get (v : Value) (n i : Nat) (h : i < n) : (reps v n)[i]? = some v := by simp [reps, h]
theorem splice_first (z v : Value) (n : Nat) (h : 0 < n) : splice (zrow z n) 0 [v] = reps v 1 ++ zrow z (n - 1) := by
  obtain ⟨m, rfl⟩ : ∃ m, n = m + 1 := ⟨n - 1, by omega⟩
  simp [splice, zrow, reps, List.replicate_succ]
theorem splice_next (z v : Value) (m q N : Nat) (h : m + q ≤ N) : splice (reps v m ++ zrow z (N - m)) m (reps v q) = reps v (m + q) ++ zrow z (N - (m + q)) := by
  unfold splice
  rw [List.take_append_of_le_length (by rw [reps_len]; omega), List.take_of_length_le (by rw [reps_len]; omega), reps_len, List.drop_append, reps_len, List.drop_of_length_le (by rw [reps_len]; omega), List.nil_append]
  unfold reps zrow
  rw [List.drop_replicate, ← List.append_assoc, List.replicate_append_replicate, show N - m - (m + q - m) = N - (m + q) from by omega]

set_option maxHeartbeats 1000000 in
set_option maxRecDepth 100000 in
theorem F40 (gx cx : Nat) (x n : Nat) (w : World) (hc : w.cell? ⟨gx, 0, none⟩ = some (.int .u64 (x : Int))) (hg : gx < w.heap.size) (hn : n ≤ 400000) :
    Calls Try.prog 40 #[.slice (some ⟨gx, 0, none⟩) 1 cx, .int .i64 (n : Int)] w fun e w' => e = .returned (.slice (some ⟨w.heap.size, 0, none⟩) n n) ∧ RowV w' w.heap.size 35 (reps (.int .u64 (x : Int)) n) ∧ Below w.heap.size w w' := by
  have hmk := make_run 34 35 (.int .u64 0) 8 Try.underlying34 Try.info35 rfl n (by omega) (by omega)
  have hsz : (Try.prog.info? 35).map (·.size) = some 1 := by kernel_rfl
  have HSZ := hide hsz
  have HC := hide hc
  clear hsz hc
  obtain ⟨cs, hcs⟩ : ∃ cs : List Value, cs = reps (.int .u64 (x : Int)) (Nat.min 1 n) := ⟨_, rfl⟩
  have hcl : cs.length = Nat.min 1 n := by rw [hcs, reps_len]
  have HCL := hide hcl
  have HCS := hide hcs
  have HFIT : Hid (0 + cs.length ≤ (zrow (.int .u64 0) n).length) := by
    rw [zrow_len, hcl, Nat.zero_add]; exact Nat.min_le_right 1 n
  have H1 : Hid (∀ v ∈ cs, v.oneCell' = true) := by
    rw [hcs]; intro v hv; unfold reps at hv; rw [List.mem_replicate] at hv; rw [hv.2]; rfl
  have HPOS : Hid (∀ j v, cs[j]? = some v → (w.alloc (.cells (zrow (.int .u64 0) n).toArray 35)).cell? ((⟨gx, 0, none⟩ : Addr).add j) = some v) := by
    intro j v hj
    have hjl : j < cs.length := by
      rcases Nat.lt_or_ge j cs.length with h | h
      · exact h
      · rw [List.getElem?_eq_none h] at hj; cases hj
    rw [hcl] at hjl
    have hm : Nat.min 1 n ≤ 1 := Nat.min_le_left _ _
    obtain rfl : j = 0 := by omega
    rw [hcs, reps_get _ _ _ hjl] at hj
    cases hj
    rw [add_plain, World.cell?_alloc_past _ _ _ hg]
    exact HC.out
  clear hcl hcs
  go_enter Try.func40, Try.ntmps40
  go_wp2_with fail
  refine (F46 n _ hn).mono ?_
  rintro e w' ⟨rfl, hw'⟩
  subst w'
  go_wp2_with (refine wpList_copy_splice rfl _ _ 34 34 rfl 35 Try.underlying34 HSZ.out _ _ _ _ _ _ rfl rfl w.heap.size 0 (zrow (.int .u64 0) n) 35 (RowV.fresh w 35 (zrow (.int .u64 0) n)) cs HCL.out (fun _ => ⟨rfl, _, rfl, HPOS.out⟩) HFIT.out H1.out w.heap.size w ((Below.refl _ _).alloc (Nat.le_refl _) _) (Nat.le_refl _) ?_)
  intro w2 hg2 hb2
  have HG2 : Hid (RowV w2 w.heap.size 35 (reps (.int .u64 (x : Int)) cs.length ++ zrow (.int .u64 0) (n - cs.length)) ∧ cs.length ≤ n ∧ (n = 0 ∨ 1 ≤ cs.length)) := by
    have h := hg2.out
    rcases Nat.eq_zero_or_pos n with h0 | h0
    · subst h0
      have e0 : cs.length = 0 := HCL.out
      have e1 : cs = [] := List.eq_nil_of_length_eq_zero e0
      rw [e1] at h ⊢
      refine ⟨?_, by simp, Or.inl rfl⟩
      simpa [RowV, splice, reps, zrow] using h
    · have e0 : Nat.min 1 n = 1 := Nat.min_eq_left h0
      have e1 : cs = [.int .u64 (x : Int)] := by rw [HCS.out, e0]; rfl
      rw [e1] at h ⊢
      refine ⟨?_, by simp; omega, Or.inr (by simp)⟩
      rw [splice_first _ _ _ h0] at h
      exact h
  have HB2 := hide hb2
  clear hg2 hb2 hmk
  go_wp2_with fail
  go_loopw [8] (fun mv wr => ∃ m : Nat, mv = .int .i64 m ∧ m ≤ n ∧ (n = 0 ∨ 1 ≤ m) ∧ RowV wr w.heap.size 35 (reps (.int .u64 (x : Int)) m ++ zrow (.int .u64 0) (n - m)) ∧ Below w.heap.size w wr) (fun mv _ => n - (intOf mv).toNat)
  case atStart => exact ⟨cs.length, rfl, HG2.out.2.1, HG2.out.2.2, HG2.out.1, HB2.out⟩
  case round =>
    obtain ⟨m, rfl, hm, hm1, hrow, hbel⟩ := hrel
    have HR := hide hrow
    have HB := hide hbel
    clear hrow hbel HG2 HB2 HCL HCS HFIT H1 HPOS
    by_cases hlt : m < n
    · obtain ⟨q, hq⟩ : ∃ q, q = Nat.min m (n - m) := ⟨_, rfl⟩
      have hq1 : q ≤ n - m := by rw [hq]; exact Nat.min_le_right _ _
      have hq2 : q ≤ m := by rw [hq]; exact Nat.min_le_left _ _
      have hq3 : 0 < q := by rw [hq]; exact Nat.lt_min.2 ⟨by omega, by omega⟩
      have hmn : ¬ n = m := by omega
      obtain ⟨cs2, hcs2⟩ : ∃ cs2 : List Value, cs2 = reps (.int .u64 (x : Int)) q := ⟨_, rfl⟩
      have hl2 : cs2.length = q := by rw [hcs2, reps_len]
      have HL2 : Hid (cs2.length = Nat.min m (n - m)) := by show _ = _; rw [hl2, hq]
      have HLQ := hide hl2
      have hlq : cs2.length ≤ 400000 := by omega
      have HS2 : Hid (∀ j v, cs2[j]? = some v → wr.cell? ((⟨w.heap.size, 0, none⟩ : Addr).add j) = some v) := by
        intro j v hj
        have hjl : j < q := by
          rcases Nat.lt_or_ge j q with h | h
          · exact h
          · rw [List.getElem?_eq_none (by omega)] at hj; cases hj
        rw [hcs2, reps_get _ _ _ hjl] at hj
        cases hj
        rw [add_plain, Nat.zero_add]
        refine HR.out.cell j _ ?_
        rw [List.getElem?_append_left (by rw [reps_len]; omega), reps_get _ _ _ (by omega)]
      have H12 : Hid (∀ v ∈ cs2, v.oneCell' = true) := by
        rw [hcs2]; intro v hv; unfold reps at hv; rw [List.mem_replicate] at hv; rw [hv.2]; rfl
      have HF2 : Hid (m + cs2.length ≤ (reps (.int .u64 (x : Int)) m ++ zrow (.int .u64 0) (n - m)).length) := by
        rw [List.length_append, reps_len, zrow_len, hl2]; show _ ≤ _; omega
      have HSP : Hid (splice (reps (.int .u64 (x : Int)) m ++ zrow (.int .u64 0) (n - m)) m cs2 = reps (.int .u64 (x : Int)) (m + q) ++ zrow (.int .u64 0) (n - (m + q))) := by
        rw [hcs2]; exact splice_next _ _ _ _ _ (by omega)
      obtain ⟨cur, hcur⟩ : ∃ cur, cur = reps (.int .u64 (x : Int)) m ++ zrow (.int .u64 0) (n - m) := ⟨_, rfl⟩
      have HCU := hide hcur
      rw [← hcur] at HR HF2 HSP
      clear hcur hcs2 hq hl2
      go_wp2_with fail
      go_region_law (refine step_copy_splice rfl (.tmp 41) (.tmp 44) 34 34 rfl 35 Try.underlying34 HSZ.out (some ⟨w.heap.size, m, none⟩) (some ⟨w.heap.size, 0, none⟩) (n - m) (n - m) m n (by simp [Act.eval, Act.put]) (by simp [Act.eval, Act.put]) w.heap.size m cur 35 HR.out cs2 HL2.out (fun _ => ⟨rfl, _, rfl, HS2.out⟩) HF2.out H12.out w.heap.size w HB.out.drew (Nat.le_refl _) ?_; intro w4 hg4 hb4)
      have HR4 : Hid (RowV w4 w.heap.size 35 (reps (.int .u64 (x : Int)) (m + q) ++ zrow (.int .u64 0) (n - (m + q)))) := by
        have h := hg4.out
        rw [HSP.out] at h
        exact h
      have HB4 := hide hb4
      clear hg4 hb4
      simp [Act.put]
      go_wp2_with fail
      go_roundw
      case rel => exact ⟨m + q, ival (by rw [HLQ.out, IntWalk.i64_in _ (by omega)]; omega), by omega, Or.inr (by omega), HR4.out, HB4.out⟩
      case measure =>
        simp [intOf]
        rw [HLQ.out, IntWalk.i64_in _ (by omega)]
        omega
    · obtain rfl : m = n := by omega
      have HR5 : Hid (RowV wr w.heap.size 35 (reps (.int .u64 (x : Int)) m)) := by
        have h := HR.out
        rw [Nat.sub_self] at h
        rw [show reps (.int .u64 (x : Int)) m = reps (.int .u64 (x : Int)) m ++ zrow (.int .u64 0) 0 from (List.append_nil _).symm]
        exact h
      go_wp2_with fail
      go_ret
      exact ⟨rfl, HR5.out, HB.out⟩
set_option maxHeartbeats 1000000 in
set_option maxRecDepth 100000 in
theorem F42 (gx cx : Nat) (x : Bool) (n : Nat) (w : World) (hc : w.cell? ⟨gx, 0, none⟩ = some (.bool x)) (hg : gx < w.heap.size) (hn : n ≤ 400000) :
    Calls Try.prog 42 #[.slice (some ⟨gx, 0, none⟩) 1 cx, .int .i64 (n : Int)] w fun e w' => e = .returned (.slice (some ⟨w.heap.size, 0, none⟩) n n) ∧ RowV w' w.heap.size 4 (reps (.bool x) n) ∧ Below w.heap.size w w' := by
  have hmk := make_run 33 4 (.bool false) 1 Try.underlying33 Try.info4 rfl n (by omega) (by omega)
  have hsz : (Try.prog.info? 4).map (·.size) = some 1 := by kernel_rfl
  have HSZ := hide hsz
  have HC := hide hc
  clear hsz hc
  obtain ⟨cs, hcs⟩ : ∃ cs : List Value, cs = reps (.bool x) (Nat.min 1 n) := ⟨_, rfl⟩
  have hcl : cs.length = Nat.min 1 n := by rw [hcs, reps_len]
  have HCL := hide hcl
  have HCS := hide hcs
  have HFIT : Hid (0 + cs.length ≤ (zrow (.bool false) n).length) := by
    rw [zrow_len, hcl, Nat.zero_add]; exact Nat.min_le_right 1 n
  have H1 : Hid (∀ v ∈ cs, v.oneCell' = true) := by
    rw [hcs]; intro v hv; unfold reps at hv; rw [List.mem_replicate] at hv; rw [hv.2]; rfl
  have HPOS : Hid (∀ j v, cs[j]? = some v → (w.alloc (.cells (zrow (.bool false) n).toArray 4)).cell? ((⟨gx, 0, none⟩ : Addr).add j) = some v) := by
    intro j v hj
    have hjl : j < cs.length := by
      rcases Nat.lt_or_ge j cs.length with h | h
      · exact h
      · rw [List.getElem?_eq_none h] at hj; cases hj
    rw [hcl] at hjl
    have hm : Nat.min 1 n ≤ 1 := Nat.min_le_left _ _
    obtain rfl : j = 0 := by omega
    rw [hcs, reps_get _ _ _ hjl] at hj
    cases hj
    rw [add_plain, World.cell?_alloc_past _ _ _ hg]
    exact HC.out
  clear hcl hcs
  go_enter Try.func42, Try.ntmps42
  go_wp2_with fail
  refine (F46 n _ hn).mono ?_
  rintro e w' ⟨rfl, hw'⟩
  subst w'
  go_wp2_with (refine wpList_copy_splice rfl _ _ 33 33 rfl 4 Try.underlying33 HSZ.out _ _ _ _ _ _ rfl rfl w.heap.size 0 (zrow (.bool false) n) 4 (RowV.fresh w 4 (zrow (.bool false) n)) cs HCL.out (fun _ => ⟨rfl, _, rfl, HPOS.out⟩) HFIT.out H1.out w.heap.size w ((Below.refl _ _).alloc (Nat.le_refl _) _) (Nat.le_refl _) ?_)
  intro w2 hg2 hb2
  have HG2 : Hid (RowV w2 w.heap.size 4 (reps (.bool x) cs.length ++ zrow (.bool false) (n - cs.length)) ∧ cs.length ≤ n ∧ (n = 0 ∨ 1 ≤ cs.length)) := by
    have h := hg2.out
    rcases Nat.eq_zero_or_pos n with h0 | h0
    · subst h0
      have e0 : cs.length = 0 := HCL.out
      have e1 : cs = [] := List.eq_nil_of_length_eq_zero e0
      rw [e1] at h ⊢
      refine ⟨?_, by simp, Or.inl rfl⟩
      simpa [RowV, splice, reps, zrow] using h
    · have e0 : Nat.min 1 n = 1 := Nat.min_eq_left h0
      have e1 : cs = [.bool x] := by rw [HCS.out, e0]; rfl
      rw [e1] at h ⊢
      refine ⟨?_, by simp; omega, Or.inr (by simp)⟩
      rw [splice_first _ _ _ h0] at h
      exact h
  have HB2 := hide hb2
  clear hg2 hb2 hmk
  go_wp2_with fail
  go_loopw [8] (fun mv wr => ∃ m : Nat, mv = .int .i64 m ∧ m ≤ n ∧ (n = 0 ∨ 1 ≤ m) ∧ RowV wr w.heap.size 4 (reps (.bool x) m ++ zrow (.bool false) (n - m)) ∧ Below w.heap.size w wr) (fun mv _ => n - (intOf mv).toNat)
  case atStart => exact ⟨cs.length, rfl, HG2.out.2.1, HG2.out.2.2, HG2.out.1, HB2.out⟩
  case round =>
    obtain ⟨m, rfl, hm, hm1, hrow, hbel⟩ := hrel
    have HR := hide hrow
    have HB := hide hbel
    clear hrow hbel HG2 HB2 HCL HCS HFIT H1 HPOS
    by_cases hlt : m < n
    · obtain ⟨q, hq⟩ : ∃ q, q = Nat.min m (n - m) := ⟨_, rfl⟩
      have hq1 : q ≤ n - m := by rw [hq]; exact Nat.min_le_right _ _
      have hq2 : q ≤ m := by rw [hq]; exact Nat.min_le_left _ _
      have hq3 : 0 < q := by rw [hq]; exact Nat.lt_min.2 ⟨by omega, by omega⟩
      have hmn : ¬ n = m := by omega
      obtain ⟨cs2, hcs2⟩ : ∃ cs2 : List Value, cs2 = reps (.bool x) q := ⟨_, rfl⟩
      have hl2 : cs2.length = q := by rw [hcs2, reps_len]
      have HL2 : Hid (cs2.length = Nat.min m (n - m)) := by show _ = _; rw [hl2, hq]
      have HLQ := hide hl2
      have hlq : cs2.length ≤ 400000 := by omega
      have HS2 : Hid (∀ j v, cs2[j]? = some v → wr.cell? ((⟨w.heap.size, 0, none⟩ : Addr).add j) = some v) := by
        intro j v hj
        have hjl : j < q := by
          rcases Nat.lt_or_ge j q with h | h
          · exact h
          · rw [List.getElem?_eq_none (by omega)] at hj; cases hj
        rw [hcs2, reps_get _ _ _ hjl] at hj
        cases hj
        rw [add_plain, Nat.zero_add]
        refine HR.out.cell j _ ?_
        rw [List.getElem?_append_left (by rw [reps_len]; omega), reps_get _ _ _ (by omega)]
      have H12 : Hid (∀ v ∈ cs2, v.oneCell' = true) := by
        rw [hcs2]; intro v hv; unfold reps at hv; rw [List.mem_replicate] at hv; rw [hv.2]; rfl
      have HF2 : Hid (m + cs2.length ≤ (reps (.bool x) m ++ zrow (.bool false) (n - m)).length) := by
        rw [List.length_append, reps_len, zrow_len, hl2]; show _ ≤ _; omega
      have HSP : Hid (splice (reps (.bool x) m ++ zrow (.bool false) (n - m)) m cs2 = reps (.bool x) (m + q) ++ zrow (.bool false) (n - (m + q))) := by
        rw [hcs2]; exact splice_next _ _ _ _ _ (by omega)
      obtain ⟨cur, hcur⟩ : ∃ cur, cur = reps (.bool x) m ++ zrow (.bool false) (n - m) := ⟨_, rfl⟩
      have HCU := hide hcur
      rw [← hcur] at HR HF2 HSP
      clear hcur hcs2 hq hl2
      go_wp2_with fail
      go_region_law (refine step_copy_splice rfl (.tmp 41) (.tmp 44) 33 33 rfl 4 Try.underlying33 HSZ.out (some ⟨w.heap.size, m, none⟩) (some ⟨w.heap.size, 0, none⟩) (n - m) (n - m) m n (by simp [Act.eval, Act.put]) (by simp [Act.eval, Act.put]) w.heap.size m cur 4 HR.out cs2 HL2.out (fun _ => ⟨rfl, _, rfl, HS2.out⟩) HF2.out H12.out w.heap.size w HB.out.drew (Nat.le_refl _) ?_; intro w4 hg4 hb4)
      have HR4 : Hid (RowV w4 w.heap.size 4 (reps (.bool x) (m + q) ++ zrow (.bool false) (n - (m + q)))) := by
        have h := hg4.out
        rw [HSP.out] at h
        exact h
      have HB4 := hide hb4
      clear hg4 hb4
      simp [Act.put]
      go_wp2_with fail
      go_roundw
      case rel => exact ⟨m + q, ival (by rw [HLQ.out, IntWalk.i64_in _ (by omega)]; omega), by omega, Or.inr (by omega), HR4.out, HB4.out⟩
      case measure =>
        simp [intOf]
        rw [HLQ.out, IntWalk.i64_in _ (by omega)]
        omega
    · obtain rfl : m = n := by omega
      have HR5 : Hid (RowV wr w.heap.size 4 (reps (.bool x) m)) := by
        have h := HR.out
        rw [Nat.sub_self] at h
        rw [show reps (.bool x) m = reps (.bool x) m ++ zrow (.bool false) 0 from (List.append_nil _).symm]
        exact h
      go_wp2_with fail
      go_ret
      exact ⟨rfl, HR5.out, HB.out⟩
end Go.Proofs.Qxb6601135a
