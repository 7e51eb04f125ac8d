/-
  'appendSlot' (16), 'ZZappendSlot' (8), 'parseSlot' (17), 'ZZparseSlot' (9): their contracts.
-/
import Derived.Test.Qxb6609125aSlotA
import Derived.Deep.RegionWith
import Derived.Deep.RegionHeld3
namespace Go.Proofs.Qxb6609125a.Slot
open Go.RowKit Go.Proofs.Qxb6609125a.Kit

/-- An owned row of bytes is not a block of another element type. -/
theorem own_ne {w : World} {B : Nat} {sv : Value} {n : Nat} {xs : List Value} (h : w.ownsRow B 5 1 sv n xs) {b : Nat} {cs : Array Value} {e : TypeId} (hb : w.heap[b]? = some (.cells cs e (0, 0))) (he : e ≠ 5) : some b ≠ sv.ownBlock := by
  rcases h.2 with ⟨rfl, _⟩ | ⟨g, cap, cur, rfl, _, hg, _⟩
  · simp [Value.ownBlock]
  · intro hc
    simp only [Value.ownBlock, Option.some.injEq] at hc
    subst hc
    rw [hb] at hg
    simp only [Option.some.injEq, Obj.cells.injEq] at hg
    exact he hg.2.1

theorem below_grown {B : Nat} {w w' : World} {sv : Value} {n : Nat} {xs : List Value} (h : w.ownsRow B 5 1 sv n xs) (hg : w.grownBy w' sv.ownBlock) (hB : B ≤ w.heap.size) : Below B w w' :=
  (Below.refl B w).grown hg hB (fun k hk => (h.lt k hk).1)

/-- The sixteen cells that 'appendSlot' writes. -/
def slotCells (fp f l : Int) : List Value := be8 fp ++ be4 (f % 4294967296) ++ be4 (l % 4294967296)

set_option maxHeartbeats 1000000 in
/-- 'appendSlot' onto a slice that the call owns. -/
theorem f16_any (B n : Nat) (fp f l : Int) (h0 : 0 ≤ fp) (h1 : fp < 18446744073709551616) (sv : Value) (xs : List Value) (w : World) (hown : w.ownsRow B 5 1 sv n xs) (hBw : B ≤ w.heap.size) (hlim : n ≤ 1048576) :
    Calls Try.prog 16 #[sv, .agg #[.int .u64 fp, .int .i64 f, .int .i64 l]] w fun e w' => ∃ v', e = .returned v' ∧ w'.ownsRow B 5 1 v' (n + 16) (xs ++ slotCells fp f l) ∧ Below B w w' := by
  have HO : Hid (w.ownsRow B 5 1 sv n xs) := hown
  clear hown
  go_enter Try.func16, Try.ntmps16
  go_wp2_with fail
  have hbx := heap_alloc_new w (.cells #[.int .u64 fp, .int .i64 f, .int .i64 l] 42)
  have o1 := HO.out.alloc (.cells #[.int .u64 fp, .int .i64 f, .int .i64 l] 42)
  refine (f19_any B n fp h0 h1 sv xs _ o1 (by simp; omega) (by omega)).mono ?_
  rintro e w1 ⟨v1, rfl, hown1, hg1⟩
  have hb1 : w1.heap[w.heap.size]? = some (.cells #[.int .u64 fp, .int .i64 f, .int .i64 l] 42 (0, 0)) := by
    rw [hg1.block w.heap.size (by simp) (own_ne o1 hbx (by decide))]; exact hbx
  have HB1 : Hid (w1.heap[w.heap.size]? = some (.cells #[.int .u64 fp, .int .i64 f, .int .i64 l] 42 (0, 0))) := hb1
  have c1 : w1.cell? ⟨w.heap.size, 1, none⟩ = some (.int .i64 f) := by rw [cell_of_row _ _ _ _ _ _ hb1]; rfl
  have bl1 : Below B w w1 := ((Below.refl B w).alloc hBw _).trans (below_grown o1 hg1 (by simp; omega))
  have z1 := hg1.size
  have HO1 : Hid (w1.ownsRow B 5 1 v1 (n + 8) (xs ++ be8 fp)) := hown1
  clear hb1 hbx o1 hg1 hown1
  go_wp2_with fail
  refine (f20_any B (n + 8) (f % 4294967296) (by omega) (by omega) v1 _ _ HO1.out (by have := bl1.size; omega) (by omega)).mono ?_
  rintro e w2 ⟨v2, rfl, hown2, hg2⟩
  have hb2 : w2.heap[w.heap.size]? = some (.cells #[.int .u64 fp, .int .i64 f, .int .i64 l] 42 (0, 0)) := by
    rw [hg2.block w.heap.size (by simp at z1; omega) (own_ne HO1.out HB1.out (by decide))]; exact HB1.out
  have c2 : w2.cell? ⟨w.heap.size, 2, none⟩ = some (.int .i64 l) := by rw [cell_of_row _ _ _ _ _ _ hb2]; rfl
  have bl2 : Below B w w2 := bl1.trans (below_grown HO1.out hg2 (by have := bl1.size; omega))
  have HO2 : Hid (w2.ownsRow B 5 1 v2 (n + 8 + 4) (xs ++ be8 fp ++ be4 (f % 4294967296))) := hown2
  clear hb2 hg2 hown2 HB1 HO1 c1 z1
  go_wp2_with fail
  refine (f20_any B (n + 8 + 4) (l % 4294967296) (by omega) (by omega) v2 _ _ HO2.out (by have := bl2.size; omega) (by omega)).mono ?_
  rintro e w3 ⟨v3, rfl, hown3, hg3⟩
  have bl3 : Below B w w3 := bl2.trans (below_grown HO2.out hg3 (by have := bl2.size; omega))
  have HO3 : Hid (w3.ownsRow B 5 1 v3 (n + 8 + 4 + 4) (xs ++ be8 fp ++ be4 (f % 4294967296) ++ be4 (l % 4294967296))) := hown3
  clear hown3 hg3 HO2 c2
  go_wp2
  go_ret
  refine ⟨v3, rfl, ?_, bl3⟩
  have h := HO3.out
  rw [slotCells, ← List.append_assoc, ← List.append_assoc]
  exact h

/-- 'ZZappendSlot'. -/
theorem f8_any (B n : Nat) (fp f l : Int) (h0 : 0 ≤ fp) (h1 : fp < 18446744073709551616) (sv : Value) (xs : List Value) (w : World) (hown : w.ownsRow B 5 1 sv n xs) (hBw : B ≤ w.heap.size) (hlim : n ≤ 1048576) :
    Calls Try.prog 8 #[sv, .int .u64 fp, .int .i64 f, .int .i64 l] w fun e w' => ∃ v', e = .returned v' ∧ w'.ownsRow B 5 1 v' (n + 16) (xs ++ slotCells fp f l) ∧ Below B w w' := by
  have HO : Hid (w.ownsRow B 5 1 sv n xs) := hown
  clear hown
  go_enter Try.func8, Try.ntmps8
  go_wp2_with fail
  refine (f16_any B n fp f l h0 h1 sv xs _ HO.out hBw hlim).mono ?_
  rintro e w1 ⟨v1, rfl, hown1, hg1⟩
  have HO1 : Hid (w1.ownsRow B 5 1 v1 (n + 16) (xs ++ slotCells fp f l)) := hown1
  clear hown1
  go_wp2
  go_ret
  exact ⟨v1, rfl, HO1.out, hg1⟩

/-- Sixteen bytes lie in block g from o on. -/
def Row16 (w : World) (g o : Nat) (z : Nat → Int) : Prop := ∀ i, i < 16 → w.cell? ⟨g, o + i, none⟩ = some (.int .u8 (z i))
theorem row16_kept {w w' : World} {g o : Nat} {z : Nat → Int} (h : Row16 w g o z) (hb : Below w.heap.size w w') : Row16 w' g o z := fun i hi => cell_kept hb (Nat.le_refl _) (h i hi)

/-- 'Uint64' of the first eight, in whatever world that came of W0. -/
theorem f21_at (W0 : World) (g o n c : Nat) (z : Nat → Int) (hz : ∀ i, IsByte (z i)) (hr : Row16 W0 g o z) (hn : 8 ≤ n) (w : World) (hb : Below W0.heap.size W0 w) :
    Calls Try.prog 21 #[.agg #[], .slice (some ⟨g, o, none⟩) n c] w fun e w' => e = .returned (.int .u64 (num8 (z 0) (z 1) (z 2) (z 3) (z 4) (z 5) (z 6) (z 7))) ∧ Below W0.heap.size W0 w' := by
  have r := row16_kept hr hb
  refine (f21_any g o n c _ _ _ _ _ _ _ _ w hn (r 0 (by omega)) (r 1 (by omega)) (r 2 (by omega)) (r 3 (by omega)) (r 4 (by omega)) (r 5 (by omega)) (r 6 (by omega)) (r 7 (by omega)) (hz _) (hz _) (hz _) (hz _) (hz _) (hz _) (hz _) (hz _)).mono ?_
  rintro e w' ⟨rfl, h⟩
  exact ⟨rfl, hb.trans (h.mono hb.size)⟩

/-- 'Uint32' of the four from the j-th on. -/
theorem f22_at (W0 : World) (g o n c : Nat) (z : Nat → Int) (hz : ∀ i, IsByte (z i)) (hr : Row16 W0 g o z) (hn : 4 ≤ n) (j : Nat) (hj : j + 3 < 16) (w : World) (hb : Below W0.heap.size W0 w) :
    Calls Try.prog 22 #[.agg #[], .slice (some ⟨g, o + j, none⟩) n c] w fun e w' => e = .returned (.int .u32 (num4 (z j) (z (j + 1)) (z (j + 2)) (z (j + 3)))) ∧ Below W0.heap.size W0 w' := by
  have r := row16_kept hr hb
  refine (f22_any g (o + j) n c _ _ _ _ w hn (r j (by omega)) (r (j + 1) (by omega)) (r (j + 2) (by omega)) (r (j + 3) (by omega)) (hz _) (hz _) (hz _) (hz _)).mono ?_
  rintro e w' ⟨rfl, h⟩
  exact ⟨rfl, hb.trans (h.mono hb.size)⟩

theorem num4_bd {a b c d : Int} (ha : IsByte a) (hb : IsByte b) (hc : IsByte c) (hd : IsByte d) : 0 ≤ num4 a b c d ∧ num4 a b c d < 4294967296 := by unfold IsByte at *; unfold num4; omega

theorem res_cells {w W0 w' : World} (h : W0 = w.alloc (.cells #[.int .u64 0, .int .i64 0, .int .i64 0] 42)) (hb : Below W0.heap.size W0 w') :
    w'.cell? ⟨w.heap.size, 0, none⟩ = some (.int .u64 0) ∧ w'.cell? ⟨w.heap.size, 1, none⟩ = some (.int .i64 0) ∧ w'.cell? ⟨w.heap.size, 2, none⟩ = some (.int .i64 0) ∧ ∀ o, w'.frozen? ⟨w.heap.size, o, none⟩ = false := by
  have hn : w'.heap[w.heap.size]? = some (.cells #[.int .u64 0, .int .i64 0, .int .i64 0] 42 (0, 0)) := by
    subst h
    rw [hb.block w.heap.size (by simp)]
    exact heap_alloc_new w _
  exact ⟨by rw [cell_of_row _ _ _ _ _ _ hn]; rfl, by rw [cell_of_row _ _ _ _ _ _ hn]; rfl, by rw [cell_of_row _ _ _ _ _ _ hn]; rfl, fun o => frozen_of_row _ _ _ _ _ hn⟩

set_option maxHeartbeats 2000000 in
/-- 'parseSlot' at sixteen bytes or more. -/
theorem f17_any (g o n c : Nat) (z : Nat → Int) (w : World) (hz : ∀ i, IsByte (z i)) (hr : Row16 w g o z) (hn : 16 ≤ n) (hc : n ≤ c) :
    Calls Try.prog 17 #[.slice (some ⟨g, o, none⟩) n c] w fun e w' => e = .returned (.agg #[.int .u64 (num8 (z 0) (z 1) (z 2) (z 3) (z 4) (z 5) (z 6) (z 7)), .int .i64 (num4 (z 8) (z 9) (z 10) (z 11)), .int .i64 (num4 (z 12) (z 13) (z 14) (z 15))]) ∧ Below w.heap.size w w' := by
  obtain ⟨W0, hW0⟩ : ∃ W0, W0 = w.alloc (.cells #[.int .u64 0, .int .i64 0, .int .i64 0] 42) := ⟨_, rfl⟩
  have HR : Hid (Row16 W0 g o z) := by rw [hW0]; exact row16_kept hr ((Below.refl _ _).alloc (Nat.le_refl _) _)
  have HZ : Hid (∀ i, IsByte (z i)) := hz
  have k8 := num4_bd (hz 8) (hz 9) (hz 10) (hz 11)
  have k12 := num4_bd (hz 12) (hz 13) (hz 14) (hz 15)
  have e8 : IntKind.i64.wrap (num4 (z 8) (z 9) (z 10) (z 11)) = num4 (z 8) (z 9) (z 10) (z 11) := by rw [IntKind.wrap_i64]; omega
  have e12 : IntKind.i64.wrap (num4 (z 12) (z 13) (z 14) (z 15)) = num4 (z 12) (z 13) (z 14) (z 15) := by rw [IntKind.wrap_i64]; omega
  have n8 : ¬ c = 8 := by omega
  have n12 : ¬ c = 12 := by omega
  have i1 : (8 : Int) ≤ (n : Int) := by omega
  have i2 : (12 : Int) ≤ (n : Int) := by omega
  have i3 : (n : Int) ≤ (c : Int) := by omega
  clear hr hz
  go_enter Try.func17, Try.ntmps17
  go_wp2_with fail
  rw [← hW0]
  have HW0 : Hid (W0 = w.alloc (.cells #[.int .u64 0, .int .i64 0, .int .i64 0] 42)) := hW0
  clear hW0
  have tok1 : True := trivial
  go_region_held3 (fun _ => True) (trivial) (first
    | (go_at_call 21; refine (f21_at W0 g o n c z HZ.out HR.out (by omega) _ ?_).mono ?_; (first | exact (Below.refl _ _).drew | assumption | (refine Below.drew ?_; assumption)); rintro e w' ⟨rfl, hb1⟩)
    | (go_at_call 22; have _t := tok1; refine (f22_at W0 g o _ _ z HZ.out HR.out ?_ 8 (by decide) _ ?_).mono ?_; omega; assumption; rintro e w' ⟨rfl, hb2⟩; clear tok1)
    | (go_at_call 22; refine (f22_at W0 g o _ _ z HZ.out HR.out ?_ 12 (by decide) _ ?_).mono ?_; omega; assumption; rintro e w' ⟨rfl, hb3⟩; obtain ⟨q0, q1, q2, q3⟩ := res_cells HW0.out hb3))
  go_wp2
  refine bodyPost_ret (v := .agg #[.int .u64 (num8 (z 0) (z 1) (z 2) (z 3) (z 4) (z 5) (z 6) (z 7)), .int .i64 (num4 (z 8) (z 9) (z 10) (z 11)), .int .i64 (num4 (z 12) (z 13) (z 14) (z 15))]) (by simp [results, Try.results17, go_sem, q0, q1, q2]) rfl ⟨rfl, ?_⟩
  have h0 : Below w.heap.size w W0 := by rw [HW0.out]; exact (Below.refl _ _).alloc (Nat.le_refl _) _
  exact (((h0.trans (hb3.mono h0.size)).setCell (Nat.le_refl _) _).setCell (Nat.le_refl _) _).setCell (Nat.le_refl _) _

set_option maxHeartbeats 2000000 in
/-- 'ZZparseSlot' at sixteen bytes or more. -/
theorem f9_any (g o n c : Nat) (z : Nat → Int) (w : World) (hz : ∀ i, IsByte (z i)) (hr : Row16 w g o z) (hn : 16 ≤ n) (hc : n ≤ c) :
    Calls Try.prog 9 #[.slice (some ⟨g, o, none⟩) n c] w fun e w' => e = .returned (.tuple #[.int .u64 (num8 (z 0) (z 1) (z 2) (z 3) (z 4) (z 5) (z 6) (z 7)), .int .i64 (num4 (z 8) (z 9) (z 10) (z 11)), .int .i64 (num4 (z 12) (z 13) (z 14) (z 15))]) ∧ Below w.heap.size w w' := by
  have HR : Hid (Row16 w g o z) := hr
  have HZ : Hid (∀ i, IsByte (z i)) := hz
  clear hr hz
  go_enter Try.func9, Try.ntmps9
  go_wp2_with fail
  refine (f17_any g o n c z _ HZ.out HR.out hn hc).mono ?_
  rintro e w1 ⟨rfl, hb1⟩
  go_wp2
  go_quiet (fail)
  go_wp2
  go_ret3
  exact ⟨rfl, below_drewN (hb1.alloc hb1.size _) _⟩

end Go.Proofs.Qxb6609125a.Slot
