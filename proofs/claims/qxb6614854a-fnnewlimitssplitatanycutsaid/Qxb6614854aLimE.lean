/-
  'FnNewLimitsSplitAtAnyCut' (4): the law's own body.
-/
import Derived.Test.Qxb6614854aLimD
namespace Go.Proofs.Qxb6614854a.Lim
open Go.RowKit Go.Proofs.Qxb6614854a.Kit

theorem optL_take (zs : List Int) (bs : List Bool) : ∀ (n k : Nat), k ≤ n → (optL zs bs n).take k = optL zs bs k
  | 0, k, h => by have : k = 0 := by omega
                  subst this; rfl
  | n + 1, k, h => by
    have hl := optL_length zs bs n
    by_cases e : k = n + 1
    · subst e
      rw [List.take_of_length_le (by rw [optL_length]; omega)]
    · rw [optL, List.take_append_of_le_length (by omega), optL_take zs bs n k (by omega)]
/-- The options k .. n-1. -/
def optR (zs : List Int) (bs : List Bool) (k : Nat) : Nat → List (Option Int)
  | 0 => []
  | n + 1 => if k ≤ n then optR zs bs k n ++ [optAt zs bs n] else []
theorem optL_drop (zs : List Int) (bs : List Bool) (k : Nat) : ∀ (n : Nat), (optL zs bs n).drop k = optR zs bs k n
  | 0 => by simp [optL, optR]
  | n + 1 => by
    have hl := optL_length zs bs n
    rw [optL, optR]
    by_cases e : k ≤ n
    · rw [if_pos e, List.drop_append_of_le_length (by omega), optL_drop zs bs k n]
    · rw [if_neg e, List.drop_eq_nil_of_le (by simp; omega)]
theorem fold_optR (zs : List Int) (bs : List Bool) (d : Int) (lo : Nat) : ∀ n, foldD d (optR zs bs lo n) = if lastS bs lo n < 0 then d else zs.getD (lastS bs lo n).toNat 0
  | 0 => by simp [optR, foldD, lastS]
  | n + 1 => by
    rw [optR, lastS]
    by_cases e : lo ≤ n
    · rw [if_pos e, if_pos e, foldD_append, fold_optR zs bs d lo n, optAt]
      by_cases h : sk bs n = true
      · simp only [if_pos h, foldD]
      · simp only [if_neg h, foldD]
        rw [if_neg (by omega), Int.toNat_natCast]
    · rw [if_neg e, if_neg e]; rfl
/-- Where a setter stands at k or behind it, the first k options count for nothing. -/
theorem fold_cut_pos (zs : List Int) (bs : List Bool) (d : Int) (n k : Nat) (h : 0 ≤ lastS bs k n) : foldD d (optL zs bs n) = foldD d ((optL zs bs n).drop k) := by
  have e : foldD d (optL zs bs n) = foldD d ((optL zs bs n).take k ++ (optL zs bs n).drop k) := by rw [List.take_append_drop]
  rw [e, foldD_append, optL_drop, fold_optR, fold_optR, if_neg (by omega), if_neg (by omega)]
theorem fold_cut_neg (zs : List Int) (bs : List Bool) (d : Int) (n k : Nat) (h : lastS bs k n < 0) : foldD d (optL zs bs n) = foldD d ((optL zs bs n).take k) := by
  have e : foldD d (optL zs bs n) = foldD d ((optL zs bs n).take k ++ (optL zs bs n).drop k) := by rw [List.take_append_drop]
  rw [e, foldD_append, optL_drop, fold_optR, if_pos (by omega)]
theorem fold_twice (zs : List Int) (bs : List Bool) (d : Int) (n : Nat) : foldD d (optL zs bs n ++ optL zs bs n) = foldD d (optL zs bs n) := by
  rw [foldD_append, fold_optL, fold_optL]
  split <;> rfl

theorem inVals_take {w : World} {a : Option Addr} {vs : List Value} (h : InVals w a vs) (k : Nat) : InVals w a (vs.take k) := fun i hi => by
  simp only [List.length_take] at hi
  obtain ⟨b, off, ha, hc⟩ := h i (by omega)
  refine ⟨b, off, ha, ?_⟩
  rw [hc]
  simp [List.getD, show i < k by omega]
theorem opts_take {w : World} {vs : List Value} {os : List (Option Int)} (h : Opts w vs os) (k : Nat) : Opts w (vs.take k) (os.take k) := ⟨by simp [h.1], fun i hi => by
  simp only [List.length_take] at hi
  have := h.2 i (by omega)
  simpa [List.getD, List.getElem?_take, show i < k by omega] using this⟩
theorem inVals_drop {w : World} {g off : Nat} {vs : List Value} (h : InVals w (some ⟨g, off, none⟩) vs) (k : Nat) : InVals w (some ⟨g, off + k, none⟩) (vs.drop k) := fun i hi => by
  simp only [List.length_drop] at hi
  obtain ⟨b, o, ha, hc⟩ := h (k + i) (by omega)
  simp only [Option.some.injEq, Addr.mk.injEq, and_true] at ha
  obtain ⟨rfl, rfl⟩ := ha
  refine ⟨g, off + k, rfl, ?_⟩
  rw [show off + k + i = off + (k + i) by omega, hc]
  simp [List.getD]
theorem opts_drop {w : World} {vs : List Value} {os : List (Option Int)} (h : Opts w vs os) (k : Nat) : Opts w (vs.drop k) (os.drop k) := ⟨by simp [h.1], fun i hi => by
  simp only [List.length_drop] at hi
  have := h.2 (k + i) (by omega)
  simpa [List.getD] using this⟩
theorem opts_append {w : World} {vs us : List Value} {os ps : List (Option Int)} (h : Opts w vs os) (h2 : Opts w us ps) : Opts w (vs ++ us) (os ++ ps) := ⟨by simp [h.1, h2.1], fun i hi => by
  simp only [List.length_append] at hi
  have h1 := h.1
  by_cases e : i < vs.length
  · simp only [List.getD, List.getElem?_append_left e, List.getElem?_append_left (show i < os.length by omega)]
    exact h.2 i e
  · simp only [List.getD, List.getElem?_append_right (show vs.length ≤ i by omega), List.getElem?_append_right (show os.length ≤ i by omega), ← h1]
    exact h2.2 (i - vs.length) (by omega)⟩

/-- What stands in memory all along. -/
def St (a b : Option Addr) (g : Nat) (zs : List Int) (bs : List Bool) (vs : List Value) (os : List (Option Int)) (w W : World) : Prop :=
  Below w.heap.size w W ∧ InInts W a zs ∧ InBools W b bs ∧ InVals W (some ⟨g, 0, none⟩) vs ∧ Opts W vs os
theorem st_kept {a b : Option Addr} {g : Nat} {zs : List Int} {bs : List Bool} {vs : List Value} {os : List (Option Int)} {w W W' : World} (h : St a b g zs bs vs os w W) (hb : Below W.heap.size W W') : St a b g zs bs vs os w W' :=
  ⟨h.1.trans (hb.mono h.1.size), inInts_kept h.2.1 hb, inBools_kept h.2.2.1 hb, inVals_kept h.2.2.2.1 hb, opts_kept h.2.2.2.2 hb⟩
theorem st_cells {a b : Option Addr} {g : Nat} {zs : List Int} {bs : List Bool} {vs : List Value} {os : List (Option Int)} {w W : World} (h : St a b g zs bs vs os w W) : ∀ j u, vs[j]? = some u → W.cell? ((⟨g, 0, none⟩ : Addr).add j) = some u := fun j u hu => by
  have hj : j < vs.length := by
    by_cases e : j < vs.length
    · exact e
    · rw [List.getElem?_eq_none (by omega)] at hu; cases hu
  obtain ⟨b', o, ha, hc⟩ := h.2.2.2.1 j hj
  simp only [Option.some.injEq, Addr.mk.injEq, and_true] at ha
  obtain ⟨rfl, rfl⟩ := ha
  rw [Addr.add_mid, hc, List.getD, hu]; rfl
theorem st_one {a b : Option Addr} {g : Nat} {zs : List Int} {bs : List Bool} {vs : List Value} {os : List (Option Int)} {w W : World} (h : St a b g zs bs vs os w W) : ∀ u, u ∈ vs → u.oneCell' = true := fun u hu => by
  obtain ⟨i, hi, rfl⟩ := List.getElem_of_mem hu
  have := h.2.2.2.2.2 i hi
  rw [List.getD, List.getElem?_eq_getElem hi] at this
  rcases this with ⟨_, h2⟩ | ⟨_, _, _, h2, _⟩
  · simp only [Option.getD_some] at h2; rw [h2]; rfl
  · simp only [Option.getD_some] at h2; rw [h2]; rfl

set_option maxHeartbeats 2000000 in
theorem f4_any (a b : Option Addr) (n c m d : Nat) (k : Int) (zs : List Int) (bs : List Bool) (w : World) (hz : zs.length = n) (hs : bs.length = m) (hn : n ≤ 9223372036854775807) (hm : m ≤ 9223372036854775807) (hi1 : InInts w a zs) (hc : InBools w b bs) :
    Calls Try.prog 4 #[.slice a n c, .slice b m d, .int .i64 k] w fun e w' => e = .returned (.bool true) ∧ Below w.heap.size w w' := by
  have HC := hide hc
  have HS := hide hs
  have HI := hide hi1
  have HZ := hide hz
  clear hc hs hi1 hz
  go_enter Try.func4, Try.ntmps4
  go_wp2_with fail
  refine (f10_any a b n c m d k _ hn hm).mono ?_
  rintro e w' ⟨⟨r, rfl⟩, rfl⟩
  cases r with
  | false =>
    go_wp2_with fail
    go_ret
    exact ⟨rfl, Below.refl _ _⟩
  | true =>
  by_cases h1 : 65536 < n
  · go_wp2_with fail
    go_ret
    exact ⟨rfl, Below.refl _ _⟩
  by_cases h2 : 65536 < m
  · go_wp2_with fail
    go_ret
    exact ⟨rfl, Below.refl _ _⟩
  have h3' : ¬ (1048576 : Int) < 8 * (n : Int) + (m : Int) := by omega
  by_cases hk0 : k < 0
  · go_wp2_with fail
    go_ret
    exact ⟨rfl, Below.refl _ _⟩
  obtain ⟨k, rfl⟩ := Int.eq_ofNat_of_zero_le (show 0 ≤ k by omega)
  by_cases hk1 : (n : Int) < (k : Int)
  · go_wp2_with fail
    go_ret
    exact ⟨rfl, Below.refl _ _⟩
  have hk2 : k ≤ n := by omega
  go_wp2_with fail
  refine (f6_any a b n c m d zs bs _ HZ.out HS.out (by omega) HI.out HC.out).mono ?_
  rintro e w1 ⟨rfl, ⟨vs, hown, hops⟩, hb1⟩
  obtain ⟨hvl, hvin⟩ := inVals_own hown
  have HVL := hide hvl
  have HT1 : Hid (St a b w.heap.size zs bs vs (optL zs bs n) w w1) := ⟨hb1, inInts_kept HI.out hb1, inBools_kept HC.out hb1, hvin, hops⟩
  clear hown hops hvl hvin HI HC hb1
  go_wp2_with fail
  refine (f9_any _ n n vs (optL zs bs n) _ HVL.out (by omega) HT1.out.2.2.2.1 HT1.out.2.2.2.2).mono ?_
  rintro e w2 ⟨rfl, hb2⟩
  obtain ⟨D1, HD1⟩ : ∃ x, Hid (foldD 10000 (optL zs bs n) = x) := ⟨_, rfl⟩
  rw [HD1.out]
  go_wp2_with fail
  have HT2 : Hid (St a b w.heap.size zs bs vs (optL zs bs n) w (w2.alloc (.cells #[.int .i64 D1] 30))) := st_kept HT1.out (hb2.alloc hb2.size _)
  have C1 : Hid ((w2.alloc (.cells #[.int .i64 D1] 30)).cell? ⟨w2.heap.size, 0, none⟩ = some (.int .i64 D1)) := by show _ = _; rw [cell_of_row _ _ _ _ _ _ (heap_alloc_new w2 _)]; rfl
  clear hb2 HT1
  generalize w2.alloc (.cells #[.int .i64 D1] 30) = Wa at HT2 C1 ⊢
  refine (f9_any _ k n (vs.take k) ((optL zs bs n).take k) _ (by have := HVL.out; simp; omega) (by omega) (inVals_take HT2.out.2.2.2.1 k) (opts_take HT2.out.2.2.2.2 k)).mono ?_
  rintro e w3 ⟨rfl, hb3⟩
  obtain ⟨D2, HD2⟩ : ∃ x, Hid (foldD 10000 ((optL zs bs n).take k) = x) := ⟨_, rfl⟩
  rw [HD2.out]
  obtain ⟨D3, HD3⟩ : ∃ x, Hid (foldD 10000 ((optL zs bs n).drop k) = x) := ⟨_, rfl⟩
  obtain ⟨L, HL⟩ : ∃ x, Hid (lastS bs k n = x) := ⟨_, rfl⟩
  have E1 : Hid (lastD zs bs 0 n = D1) := by show _ = _; rw [← HD1.out, fold_optL]; rfl
  have E2 : Hid (lastD zs bs 0 k = D2) := by show _ = _; rw [← HD2.out, optL_take zs bs n k hk2, fold_optL]; rfl
  have E3 : Hid (0 ≤ L → D1 = D3) := fun h => by rw [← HD1.out, ← HD3.out]; exact fold_cut_pos zs bs 10000 n k (by rw [HL.out]; exact h)
  have E4 : Hid (L < 0 → D1 = D2) := fun h => by rw [← HD1.out, ← HD2.out]; exact fold_cut_neg zs bs 10000 n k (by rw [HL.out]; exact h)
  have E5 : Hid (foldD 10000 (optL zs bs n ++ optL zs bs n) = D1) := by show _ = _; rw [fold_twice, HD1.out]
  clear HD1 HD2
  obtain ⟨i0, hi, hz0, hz1, hz2⟩ := info_parts info33
  by_cases hnk0 : n = k
  focus subst hnk0
  all_goals go_wp2_with fail
  all_goals (
    have HT3 : Hid (St a b w.heap.size zs bs vs (optL zs bs n) w (w3.alloc (.cells #[.int .i64 D2] 30))) := st_kept HT2.out (hb3.alloc hb3.size _)
    have C1b : Hid ((w3.alloc (.cells #[.int .i64 D2] 30)).cell? ⟨w2.heap.size, 0, none⟩ = some (.int .i64 D1)) := cell_kept (hb3.alloc hb3.size _) (Nat.le_refl _) C1.out
    have C2 : Hid ((w3.alloc (.cells #[.int .i64 D2] 30)).cell? ⟨w3.heap.size, 0, none⟩ = some (.int .i64 D2)) := by show _ = _; rw [cell_of_row _ _ _ _ _ _ (heap_alloc_new w3 _)]; rfl
    clear hb3 HT2 C1
    generalize w3.alloc (.cells #[.int .i64 D2] 30) = Wb at HT3 C1b C2 ⊢
    refine Calls.mono (show Calls Try.prog 9 _ Wb (fun e w' => e = .returned (.agg #[.int .i64 D3]) ∧ Below Wb.heap.size Wb w') from ?_) ?_
    focus first
      | exact HD3.out ▸ f9_any (some ⟨w.heap.size, k, none⟩) (n - k) (n - k) (vs.drop k) ((optL zs bs n).drop k) _ (by have := HVL.out; simp; omega) (by omega) (by have := inVals_drop HT3.out.2.2.2.1 k; rwa [Nat.zero_add] at this) (opts_drop HT3.out.2.2.2.2 k)
      | (rw [← HD3.out, List.drop_eq_nil_of_le (by rw [optL_length]; omega)]; exact f9_nil _ _ _)
    rintro e w4 ⟨rfl, hb4⟩
    go_wp2_with (at_make; refine wpList_make_own _ rfl _ _ 25 rfl (w4.heap.size + 1) 33 i0 .nilFunc 1 Try.underlying25 hi hz0 hz1 _ _ _ (2 * n) rfl rfl (by omega) (by rw [hz2]; omega) (by unfold maxLen; omega) (by rw [size_new]; omega) ?_)
    intro w5 hown5 hgrow5
    have hb4' : Below Wb.heap.size Wb (w4.alloc (.cells #[.int .i64 D3] 30)) := hb4.alloc hb4.size _
    have HT4 := hide (st_kept HT3.out hb4')
    have C1c := hide (cell_kept hb4' (Nat.le_refl _) C1b.out)
    have C2c := hide (cell_kept hb4' (Nat.le_refl _) C2.out)
    have C3c : Hid ((w4.alloc (.cells #[.int .i64 D3] 30)).cell? ⟨w4.heap.size, 0, none⟩ = some (.int .i64 D3)) := by show _ = _; rw [cell_of_row _ _ _ _ _ _ (heap_alloc_new w4 _)]; rfl
    have hsz4 : (w4.alloc (.cells #[.int .i64 D3] 30)).heap.size = w4.heap.size + 1 := size_new _ _
    clear HT3 C1b C2 hb4 hb4'
    generalize w4.alloc (.cells #[.int .i64 D3] 30) = Wc at HT4 C1c C2c C3c hgrow5 hsz4
    have hb5 : Below Wc.heap.size Wc w5 := (Below.refl _ _).grown hgrow5 (Nat.le_refl _) (fun k hk => by cases hk)
    have HO5 := hide hown5
    clear hown5 hgrow5
    go_wp2_with (at_builtin; refine wpList_append_fits _ rfl (.tmp 56) (.tmp 57) 25 rfl (w4.heap.size + 1) 33 i0 1 Try.underlying25 hi hz1 (w4.heap.size + 1) 0 (2 * n) [] rfl HO5.out ⟨w.heap.size, 0, none⟩ n n vs rfl (by have := HVL.out; omega) (st_cells (st_kept HT4.out hb5)) (st_one HT4.out) (by omega) ?_)
    intro w6 hown6 hgrow6
    have HO6 : Hid (w6.ownsRow (w4.heap.size + 1) 33 1 (.slice (some ⟨w4.heap.size + 1, 0, none⟩) n (2 * n)) n vs) := hown6
    have hb6 : Below Wc.heap.size Wc w6 := hb5.grown hgrow6 hb5.size (fun k hk => by simp at hk; omega)
    clear hown6 hgrow6 HO5 hb5
    go_wp2_with (at_builtin; refine wpList_append_fits _ rfl (.tmp 59) (.tmp 60) 25 rfl (w4.heap.size + 1) 33 i0 1 Try.underlying25 hi hz1 (w4.heap.size + 1) n (2 * n) vs rfl HO6.out ⟨w.heap.size, 0, none⟩ n n vs rfl (by have := HVL.out; omega) (st_cells (st_kept HT4.out hb6)) (st_one HT4.out) (by omega) ?_)
    intro w7 hown7 hgrow7
    obtain ⟨hvl7, hvi7⟩ := inVals_own hown7
    have HVI7 := hide hvi7
    have HVL7 := hide hvl7
    have hb7 : Below Wc.heap.size Wc w7 := hb6.grown hgrow7 hb6.size (fun k hk => by simp at hk; omega)
    clear hown7 hgrow7 HO6 hb6 hvl7 hvi7
    have HT7 := hide (st_kept HT4.out hb7)
    have C17 := hide (cell_kept hb7 (Nat.le_refl _) C1c.out)
    have C27 := hide (cell_kept hb7 (Nat.le_refl _) C2c.out)
    have C37 := hide (cell_kept hb7 (Nat.le_refl _) C3c.out)
    clear hb7 HT4 C1c C2c C3c
    go_wp2_with fail
    refine (f9_any _ _ _ (vs ++ vs) (optL zs bs n ++ optL zs bs n) _ HVL7.out (by omega) HVI7.out (opts_append HT7.out.2.2.2.2 HT7.out.2.2.2.2)).mono ?_
    rintro e w8 ⟨rfl, hb8⟩
    rw [E5.out]
    go_wp2_with fail
    have hb8' : Below w7.heap.size w7 (w8.alloc (.cells #[.int .i64 D1] 30)) := hb8.alloc hb8.size _
    have HT8 := hide (st_kept HT7.out hb8')
    have c1 := cell_kept hb8' (Nat.le_refl _) C17.out
    have c2 := cell_kept hb8' (Nat.le_refl _) C27.out
    have c3 := cell_kept hb8' (Nat.le_refl _) C37.out
    have c4 : (w8.alloc (.cells #[.int .i64 D1] 30)).cell? ⟨w8.heap.size, 0, none⟩ = some (.int .i64 D1) := by rw [cell_of_row _ _ _ _ _ _ (heap_alloc_new w8 _)]; rfl
    clear hb8 hb8' HT7 C17 C27 C37 HVI7 HVL7
    generalize w8.alloc (.cells #[.int .i64 D1] 30) = Wd at HT8 c1 c2 c3 c4 ⊢
    have T1 : Hid (∀ j, Calls Try.prog 7 #[.slice a n c, .slice b m d, .int .i64 0, .int .i64 n] (Wd.drewN j) fun e w' => e = .returned (.int .i64 D1) ∧ w' = Wd.drewN j) := fun j =>
      have hst := st_kept HT8.out (below_drewN (Below.refl _ _) j)
      (f7_any a b n c m d zs bs 0 n _ HZ.out HS.out (by omega) (by omega) (Nat.le_refl _) hst.2.1 hst.2.2.1).mono fun e w' h => ⟨by rw [h.1, E1.out], h.2.symm⟩
    go_quiet ((go_at_call 7; exact Calls.quiet_of_same (T1.out _)))
    go_wp2_with fail
    have HT9 := hide (st_kept HT8.out (below_drewN (Below.refl _ _) nq))
    have d1 := cell_kept (below_drewN (Below.refl _ _) nq) (Nat.le_refl _) c1
    have d2 := cell_kept (below_drewN (Below.refl _ _) nq) (Nat.le_refl _) c2
    have d3 := cell_kept (below_drewN (Below.refl _ _) nq) (Nat.le_refl _) c3
    have d4 := cell_kept (below_drewN (Below.refl _ _) nq) (Nat.le_refl _) c4
    clear HT8 c1 c2 c3 c4 T1
    generalize Wd.drewN nq = We at HT9 d1 d2 d3 d4 ⊢
    have T2 : Hid (∀ j, Calls Try.prog 7 #[.slice a n c, .slice b m d, .int .i64 0, _] (We.drewN j) fun e w' => e = .returned (.int .i64 D2) ∧ w' = We.drewN j) := fun j =>
      have hst := st_kept HT9.out (below_drewN (Below.refl _ _) j)
      (f7_any a b n c m d zs bs 0 _ _ HZ.out HS.out (by omega) (by omega) hk2 hst.2.1 hst.2.2.1).mono fun e w' h => ⟨by rw [h.1, E2.out], h.2.symm⟩
    go_quiet ((go_at_call 7; exact Calls.quiet_of_same (T2.out _)))
    go_wp2_with fail
    have HTa := hide (st_kept HT9.out (below_drewN (Below.refl _ _) nq))
    have e1 := cell_kept (below_drewN (Below.refl _ _) nq) (Nat.le_refl _) d1
    have e2 := cell_kept (below_drewN (Below.refl _ _) nq) (Nat.le_refl _) d2
    have e3 := cell_kept (below_drewN (Below.refl _ _) nq) (Nat.le_refl _) d3
    have e4 := cell_kept (below_drewN (Below.refl _ _) nq) (Nat.le_refl _) d4
    clear HT9 d1 d2 d3 d4 T2
    generalize We.drewN nq = Wf at HTa e1 e2 e3 e4 ⊢
    refine (f8_any b m d bs _ n _ HS.out (by omega) (by omega) HTa.out.2.2.1).mono ?_
    rintro e w9 ⟨rfl, rfl⟩
    rw [HL.out]
    by_cases hL : 0 ≤ L
    focus
      have hD := E3.out hL
      subst hD
      go_wp2_with fail
      go_ret
      exact ⟨rfl, HTa.out.1⟩
    have hD := E4.out (by omega)
    subst hD
    go_wp2_with fail
    go_ret
    exact ⟨rfl, HTa.out.1⟩)
end Go.Proofs.Qxb6614854a.Lim
