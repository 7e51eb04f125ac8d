/-
  'NewLimits' (9): the options, one after the other.
-/
import Derived.Test.Qxb6614854aLimB
namespace Go.Proofs.Qxb6614854a.Lim
open Go.RowKit Go.Proofs.Qxb6614854a.Kit

/-- A slice whose elements are the values 'vs'. -/
def InVals (w : World) (a : Option Addr) (vs : List Value) : Prop :=
  ∀ i, i < vs.length → ∃ b off, a = some ⟨b, off, none⟩ ∧ w.cell? ⟨b, off + i, none⟩ = some (vs.getD i undef)
theorem inVals_kept {w w' : World} {a : Option Addr} {vs : List Value} (h : InVals w a vs) (hb : Below w.heap.size w w') : InVals w' a vs := fun i hi => by
  obtain ⟨b, off, ha, hc⟩ := h i hi
  exact ⟨b, off, ha, cell_kept hb (Nat.le_refl _) hc⟩

/-- The depth that the options set, one after the other, from d on. -/
def foldD (d : Int) : List (Option Int) → Int
  | [] => d
  | none :: os => foldD d os
  | some z :: os => foldD z os
theorem foldD_append (d : Int) : ∀ (os ps : List (Option Int)), foldD d (os ++ ps) = foldD (foldD d os) ps
  | [], _ => rfl
  | none :: os, ps => foldD_append d os ps
  | some z :: os, ps => foldD_append z os ps
theorem take_snoc {os : List (Option Int)} {j : Nat} (h : j < os.length) : os.take (j + 1) = os.take j ++ [os.getD j none] := by
  rw [List.take_succ_eq_append_getElem h]
  simp [List.getD, h]

set_option maxHeartbeats 1000000 in
theorem f9_nil (a : Option Addr) (cap : Nat) (w : World) : Calls Try.prog 9 #[.slice a 0 cap] w fun e w' => e = .returned (.agg #[.int .i64 10000]) ∧ Below w.heap.size w w' := by
  go_enter Try.func9, Try.ntmps9
  go_wp2_with fail
  refine bodyPost_ret (v := .agg #[.int .i64 10000]) (by simp [results, Try.results9, go_sem]) rfl ⟨rfl, (Below.refl _ _).alloc (Nat.le_refl _) _⟩

set_option maxHeartbeats 1000000 in
/-- 'NewLimits'. -/
theorem f9_any (a : Option Addr) (len cap : Nat) (vs : List Value) (os : List (Option Int)) (w : World) (hv : vs.length = len) (hl : len ≤ 4194304) (hin : InVals w a vs) (hop : Opts w vs os) :
    Calls Try.prog 9 #[.slice a len cap] w fun e w' => e = .returned (.agg #[.int .i64 (foldD 10000 os)]) ∧ Below w.heap.size w w' := by
  by_cases h0 : len = 0
  · subst h0
    have ho : os = [] := List.eq_nil_of_length_eq_zero (by rw [← hop.1, hv])
    subst ho
    exact f9_nil a cap w
  have hlb : ((len : Int) == 0) = false := beq_eq_false_iff_ne.2 (by omega)
  have HV := hide hv
  have HIN := hide hin
  have HOP := hide hop
  clear hv hin hop
  go_enter Try.func9, Try.ntmps9
  go_wp2_with fail
  obtain ⟨W0, hW0⟩ : ∃ W0, W0 = (w.alloc (.cells #[.int .i64 0] 30)).alloc (.cells #[.int .i64 10000] 30) := ⟨_, rfl⟩
  rw [← hW0]
  have hB0 : Below w.heap.size w W0 := by rw [hW0]; exact ((Below.refl _ _).alloc (Nat.le_refl _) _).alloc (by rw [size_new]; omega) _
  have hR0 : Hid (W0.heap[w.heap.size]? = some (.cells #[.int .i64 0] 30 (0, 0))) := by rw [hW0]; exact heap_alloc2_old w _ _
  have hL0 : Hid (W0.heap[w.heap.size + 1]? = some (.cells #[.int .i64 10000] 30 (0, 0))) := by rw [hW0]; exact heap_alloc2_new w _ _
  have hz0 : W0.heap.size = w.heap.size + 2 := by rw [hW0, size_new, size_new]
  clear hW0
  go_loopw [5, 13] (fun _ i wr => ∃ (j : Nat) (d : Int), j ≤ len ∧ i = .int .i64 j ∧ Hid (d = foldD 10000 (os.take j)) ∧ Hid (wr.heap[w.heap.size + 1]? = some (.cells #[.int .i64 d] 30 (0, 0))) ∧ Below (w.heap.size + 1) W0 wr) (fun _ i _ => len - (intOf i).toNat)
  case atStart => exact ⟨0, 10000, Nat.zero_le _, rfl, rfl, hL0, Below.refl _ _⟩
  case round =>
    obtain ⟨j, d, hj, rfl, HD, HL, hbr⟩ := hrel
    clear hL0
    have hbw : Below w.heap.size w wr := hB0.trans (hbr.mono (by omega))
    have l0 : wr.cell? ⟨w.heap.size + 1, 0, none⟩ = some (.int .i64 d) := by rw [cell_of_row _ _ _ _ _ _ HL.out]; rfl
    have l1 : wr.frozen? ⟨w.heap.size + 1, 0, none⟩ = false := frozen_of_row _ _ _ _ _ HL.out
    by_cases hlt : j < len
    · obtain ⟨b, off, rfl, hcell⟩ := inVals_kept HIN.out hbw j (by have := HV.out; omega)
      have hopt := (opts_kept HOP.out hbw).2 j (by have := HV.out; omega)
      have htk := take_snoc (os := os) (j := j) (by rw [← HOP.out.1, HV.out]; exact hlt)
      have HTK := hide htk
      clear htk
      have hj3 : (j : Int) < (len : Int) := by omega
      rcases hopt with ⟨ho, hve⟩ | ⟨z, p, ho, hve, hp⟩
      · rw [hve] at hcell
        have HOO := hide ho
        clear ho hve
        go_wp2_with fail
        refine (f14_any ⟨w.heap.size + 1, 0, none⟩ _).mono ?_
        rintro e w' ⟨rfl, rfl⟩
        go_wp2_with fail
        go_roundw
        case rel => exact ⟨j + 1, d, by omega, by go_num, by show _ = _; rw [HTK.out, HOO.out, foldD_append, ← HD.out]; rfl, HL, hbr⟩
        case measure => simp [intOf]; omega
      · rw [hve] at hcell
        have HOO := hide ho
        have hpc : wr.cell? ⟨p, 0, none⟩ = some (.int .i64 z) := by rw [cell_of_row _ _ _ _ _ _ hp]; rfl
        clear ho hve hp
        go_wp2_with fail
        refine (f15_any (w.heap.size + 1) 0 ⟨p, 0, none⟩ d z _ hpc l0 l1).mono ?_
        rintro e w' ⟨rfl, rfl⟩
        have HL2 : Hid ((wr.setCell ⟨w.heap.size + 1, 0, none⟩ (.int .i64 z)).heap[w.heap.size + 1]? = some (.cells #[.int .i64 z] 30 (0, 0))) := heap_setCell_same wr (w.heap.size + 1) 0 _ 30 _ HL.out
        go_wp2_with fail
        go_roundw
        case rel => exact ⟨j + 1, z, by omega, by go_num, by show _ = _; rw [HTK.out, HOO.out, foldD_append]; rfl, HL2, hbr.setCell (Nat.le_refl _) _⟩
        case measure => simp [intOf]; omega
    · have hr : wr.heap[w.heap.size]? = some (.cells #[.int .i64 0] 30 (0, 0)) := by rw [hbr.block _ (by omega)]; exact hR0.out
      have r0 : wr.cell? ⟨w.heap.size, 0, none⟩ = some (.int .i64 0) := by rw [cell_of_row _ _ _ _ _ _ hr]; rfl
      have r1 : wr.frozen? ⟨w.heap.size, 0, none⟩ = false := frozen_of_row _ _ _ _ _ hr
      clear hr
      go_wp2_with fail
      refine bodyPost_ret (v := .agg #[.int .i64 (foldD 10000 os)]) ?_ rfl ⟨rfl, hbw.setCell (Nat.le_refl _) _⟩
      have hd : d = foldD 10000 os := by rw [HD.out, List.take_of_length_le (by rw [← HOP.out.1, HV.out]; omega)]
      rw [← hd]
      simp [results, Try.results9, go_sem, r0]

end Go.Proofs.Qxb6614854a.Lim
