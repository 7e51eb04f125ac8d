/-
  'FnNewLimitsLastSetterWins' (3): the law's own body.
-/
import Derived.Test.Qxb6614854aLimC
import Derived.ProofKit
import Derived.OpenShut
import Derived.ShutString
import Derived.ChangeOld
namespace Go.Proofs.Qxb6614854a.Lim
open Go.RowKit Go.Proofs.Qxb6614854a.Kit

/-! ### The plain laws -/
theorem fold_optL (zs : List Int) (bs : List Bool) (d : Int) : ∀ n, foldD d (optL zs bs n) = if lastS bs 0 n < 0 then d else zs.getD (lastS bs 0 n).toNat 0
  | 0 => by simp [optL, foldD, lastS]
  | n + 1 => by
    rw [optL, foldD_append, fold_optL zs bs d n, lastS, if_pos (Nat.zero_le _), optAt]
    by_cases h : sk bs n = true
    · simp only [if_pos h, foldD]
    · simp only [if_neg h, foldD]
      rw [if_neg (by omega), Int.toNat_natCast]
theorem lastS_sets (bs : List Bool) (lo : Nat) : ∀ n, 0 ≤ lastS bs lo n → sk bs (lastS bs lo n).toNat = false
  | 0, h => by simp [lastS] at h
  | n + 1, h => by
    rw [lastS] at h ⊢
    split at h
    · rename_i h1
      rw [if_pos h1]
      by_cases hs : sk bs n = true
      · rw [if_pos hs] at h ⊢
        exact lastS_sets bs lo n h
      · rw [if_neg hs, Int.toNat_natCast]
        simpa using hs
    · omega
theorem optL_getD (zs : List Int) (bs : List Bool) : ∀ (n i : Nat), i < n → (optL zs bs n).getD i none = optAt zs bs i
  | n + 1, i, h => by
    have hl := optL_length zs bs n
    rw [optL]
    by_cases e : i = n
    · subst e
      simp [List.getD, hl]
    · have := optL_getD zs bs n i (by omega)
      rw [← this]
      simp [List.getD, List.getElem?_append_left (show i < (optL zs bs n).length by omega)]

/-- The elements of an owned row, as values. -/
theorem inVals_own {w : World} {B g n cap : Nat} {vs : List Value} (h : w.ownsRow B 33 1 (.slice (some ⟨g, 0, none⟩) n cap) n vs) : vs.length = n ∧ InVals w (some ⟨g, 0, none⟩) vs := by
  have hl : vs.length = n := by have := h.1; omega
  refine ⟨hl, fun i hi => ⟨g, 0, rfl, ?_⟩⟩
  rw [Nat.zero_add, h.cellAt i (by omega), List.getD, List.getElem?_eq_getElem hi]
  rfl

set_option maxHeartbeats 2000000 in
theorem f3_any (a b : Option Addr) (n c m d : Nat) (zs : List Int) (bs : List Bool) (w : World) (hz : zs.length = n) (hs : bs.length = m) (hn : n ≤ 9223372036854775807) (hm : m ≤ 9223372036854775807) (hi1 : InInts w a zs) (hc : InBools w b bs) :
    Calls Try.prog 3 #[.slice a n c, .slice b m d] w fun e w' => e = .returned (.bool true) ∧ Below w.heap.size w w' := by
  have HC := hide hc
  have HS := hide hs
  have HI := hide hi1
  have HZ := hide hz
  clear hc hs hi1 hz
  go_enter Try.func3, Try.ntmps3
  go_wp2_with fail
  refine (f5_any a b n c m d _ hn hm).mono ?_
  rintro e w' ⟨⟨r, rfl⟩, rfl⟩
  cases r with
  | false =>
    go_wp2_with fail
    go_ret
    exact ⟨rfl, Below.refl _ _⟩
  | true =>
  by_cases h1 : 65536 < n
  · go_wp2_with fail
    go_ret
    exact ⟨rfl, Below.refl _ _⟩
  by_cases h2 : 65536 < m
  · go_wp2_with fail
    go_ret
    exact ⟨rfl, Below.refl _ _⟩
  have h3' : ¬ (1048576 : Int) < 8 * (n : Int) + (m : Int) := by omega
  go_wp2_with fail
  refine (f6_any a b n c m d zs bs _ HZ.out HS.out (by omega) HI.out HC.out).mono ?_
  rintro e w1 ⟨rfl, ⟨vs, hown, hops⟩, hb1⟩
  obtain ⟨hvl, hvin⟩ := inVals_own hown
  have HVL := hide hvl
  have HVI := hide hvin
  have HOP := hide hops
  clear hown hops hvl hvin
  go_wp2_with fail
  refine (f7_any a b n c m d zs bs 0 n _ HZ.out HS.out (by omega) (by omega) (Nat.le_refl _) (inInts_kept HI.out hb1) (inBools_kept HC.out hb1)).mono ?_
  rintro e w2 ⟨rfl, rfl⟩
  go_wp2_with fail
  refine (f8_any b m d bs 0 n _ HS.out (by omega) (by omega) (inBools_kept HC.out hb1)).mono ?_
  rintro e w2 ⟨rfl, rfl⟩
  go_wp2_with fail
  refine (f9_any _ n n vs (optL zs bs n) _ HVL.out (by omega) HVI.out HOP.out).mono ?_
  rintro e w2 ⟨rfl, hb2⟩
  have hB2 : Below w.heap.size w w2 := hb1.trans (hb2.mono hb1.size)
  have hfd : foldD 10000 (optL zs bs n) = lastD zs bs 0 n := fold_optL zs bs 10000 n
  rw [hfd]
  have hbd := lastS_bd bs 0 n
  have HLD := hide (show lastD zs bs 0 n = if lastS bs 0 n < 0 then 10000 else zs.getD (lastS bs 0 n).toNat 0 from rfl)
  have HNS := hide (lastS_sets bs 0 n)
  clear hfd
  generalize lastS bs 0 n = L at hbd HLD HNS ⊢
  generalize lastD zs bs 0 n = D at HLD ⊢
  by_cases hL : 0 ≤ L
  · obtain ⟨l, rfl⟩ := Int.eq_ofNat_of_zero_le hL
    have hl3 : (l : Int) < (n : Int) := by omega
    have hD : D = zs.getD l 0 := by rw [HLD.out, if_neg (by omega), Int.toNat_natCast]
    have HD := hide hD
    have hsk : sk bs l = false := by have := HNS.out (by omega); rwa [Int.toNat_natCast] at this
    have hopt : (optL zs bs n).getD l none = some D := by rw [optL_getD zs bs n l (by omega), optAt, if_neg (by rw [hsk]; decide), hD]
    have HOPT := hide hopt
    clear hD hsk hopt
    have hce : w2.cell? ⟨w.heap.size, l, none⟩ = some (vs.getD l undef) := by
      obtain ⟨b', o', ha, hc'⟩ := inVals_kept HVI.out hb2 l (by have := HVL.out; omega)
      simp only [Option.some.injEq, Addr.mk.injEq, and_true] at ha
      obtain ⟨rfl, rfl⟩ := ha
      rwa [Nat.zero_add] at hc'
    have hoi := (opts_kept HOP.out hb2).2 l (by have := HVL.out; omega)
    rw [HOPT.out] at hoi
    have HOI := hide hoi
    clear hoi
    generalize vs.getD l undef = v at hce HOI
    rcases HOI.out with ⟨h0, _⟩ | ⟨z, p, hz', rfl, hp⟩
    · cases h0
    have hce2 : ∀ o, (w2.alloc o).cell? ⟨w.heap.size, l, none⟩ = some (.func (.func 15) #[] #[.pointer (some ⟨p, 0, none⟩)]) := fun o => cell_kept ((Below.refl _ _).alloc (Nat.le_refl _) o) (Nat.le_refl _) hce
    have HO3 : Hid (∀ o o2, Opts ((w2.alloc o).alloc o2) [.func (.func 15) #[] #[.pointer (some ⟨p, 0, none⟩)]] [some D]) := fun o o2 => ⟨rfl, fun i hi => by
      simp at hi; subst hi
      exact optIs_kept (optIs_kept HOI.out ((Below.refl _ _).alloc (Nat.le_refl _) o)) ((Below.refl _ _).alloc (Nat.le_refl _) o2)⟩
    clear hz' hp hce
    go_wp2_with fail
    refine (f9_any (some ⟨w2.heap.size + 1, 0, none⟩) 1 1 [.func (.func 15) #[] #[.pointer (some ⟨p, 0, none⟩)]] [some D] _ rfl (by omega) ?_ (HO3.out _ _)).mono ?_
    · intro i hi
      simp at hi; subst hi
      exact ⟨w2.heap.size + 1, 0, rfl, by rw [cell_of_row _ _ _ _ _ _ (heap_alloc2_new w2 _ _)]; rfl⟩
    rintro e w3 ⟨rfl, hb3⟩
    have g0 : w3.cell? ⟨w2.heap.size, 0, none⟩ = some (.int .i64 D) := cell_kept hb3 (Nat.le_refl _) (by rw [cell_of_row _ _ _ _ _ _ (heap_alloc2_old w2 _ _)]; rfl)
    have hB3 : Below w.heap.size w w3 := ((hB2.alloc hB2.size _).alloc (by rw [size_new]; have := hB2.size; omega) _).trans (hb3.mono (by rw [size_new, size_new]; have := hB2.size; omega))
    have hz3 : w2.heap.size < w3.heap.size := by have := hb3.size; rw [size_new, size_new] at this; omega
    have hf : foldD 10000 [some D] = D := rfl
    rw [hf]
    clear hb3 hce2 hf
    go_wp2_with fail
    go_ret
    exact ⟨rfl, hB3.alloc hB3.size _⟩
  · have hD : D = 10000 := by rw [HLD.out, if_pos (by omega)]
    have HD := hide hD
    clear hD
    go_wp2_with fail
    refine (f9_nil none 0 _).mono ?_
    rintro e w3 ⟨rfl, hb3⟩
    have g0 : w3.cell? ⟨w2.heap.size, 0, none⟩ = some (.int .i64 D) := cell_kept hb3 (Nat.le_refl _) (by rw [cell_of_row _ _ _ _ _ _ (heap_alloc_new w2 _)]; rfl)
    have hB3 : Below w.heap.size w w3 := (hB2.alloc hB2.size _).trans (hb3.mono (by rw [size_new]; have := hB2.size; omega))
    have hz3 : w2.heap.size < w3.heap.size := by have := hb3.size; rw [size_new] at this; omega
    rw [← HD.out]
    clear hb3
    go_wp2_with fail
    go_ret
    exact ⟨rfl, hB3.alloc hB3.size _⟩

/-! ### The arguments, opened -/
section
open Go.ChangeShapes Go.WideShapes Go.ChangeAt
variable {H : Type} {enc : TypeId × Value → H}

theorem own : ownKnob Try.prog.godebug = none := by kernel_rfl
theorem laidOut : laidOutB Try.prog = true := by kernel_rfl
theorem cells4 : Try.prog.cellsOf 4 = 1 := by kernel_rfl
theorem cells3 : Try.prog.cellsOf 3 = 1 := by kernel_rfl

/-- An argument of type []int. -/
theorem ints_arg {W : World} {a : Option Addr} {len cap : Nat} {d : DataW H} {p : List MemPlace} (h : DataW.Trod enc Try.prog W 0 (fun _ => true) true 22 (.slice a len cap) d p) :
    ∃ zs : List Int, zs.length = len ∧ len ≤ 9223372036854775807 ∧ InInts W a zs := by
  obtain ⟨fuel, hf⟩ := h
  rcases open_ints Try.underlying22 Try.underlying3 cells3 hf with ⟨hcs, _⟩ | ⟨x, l, c, zs, hcs, _, hl, hm, hz, _, hcell, hwz⟩
  · simp [Value.cells] at hcs
    obtain ⟨rfl, rfl, rfl⟩ := hcs
    exact ⟨[], rfl, by omega, fun i hi => absurd hi (Nat.not_lt_zero _)⟩
  · simp [Value.cells] at hcs
    obtain ⟨rfl, rfl, rfl⟩ := hcs
    simp only [if_true] at hz
    refine ⟨zs.take len, by simp; omega, by unfold maxLen at hm; omega, fun i hi => ?_⟩
    simp only [List.length_take] at hi
    obtain ⟨b, off, spot⟩ := x
    have hc0 := hcell i (by omega)
    have hspot : spot = none := by
      have := World.cell?_spot (hcell 0 (by omega))
      simpa [Addr.add] using this
    subst hspot
    rw [Addr.add_mid] at hc0
    exact ⟨b, off, rfl, by rw [hc0]; simp [List.getD, show i < len by omega]⟩

/-- An argument of type []bool. -/
theorem bools_arg {W : World} {a : Option Addr} {len cap : Nat} {d : DataW H} {p : List MemPlace} (h : DataW.Trod enc Try.prog W 0 (fun _ => true) true 23 (.slice a len cap) d p) :
    ∃ bs : List Bool, bs.length = len ∧ len ≤ 9223372036854775807 ∧ InBools W a bs := by
  obtain ⟨fuel, hf⟩ := h
  rcases DataW.trod_slice Try.underlying23 hf with ⟨hcs, _⟩ | ⟨x, l, c, elems, rest, n', hn', hcs, _, _, hlc, hm, hel, hkids, _, _⟩
  · simp [Value.cells] at hcs
    obtain ⟨rfl, rfl, rfl⟩ := hcs
    exact ⟨[], rfl, by omega, fun i hi => absurd hi (Nat.not_lt_zero _)⟩
  · simp [Value.cells] at hcs
    obtain ⟨rfl, rfl, rfl⟩ := hcs
    have each : ∀ i, ∃ b : Bool, i < len → W.cell? (x.add i) = some (.bool b) := fun i => by
      by_cases hi : i < len
      · have hk := hkids i hi
        rw [cells4, Nat.mul_one, List.getElem?_eq_getElem (by omega), Option.bind_eq_some_iff] at hk
        obtain ⟨cs', hc', ht⟩ := hk
        obtain ⟨b, rfl, _⟩ := DataW.trod_bool Try.underlying4 ht
        exact ⟨b, fun _ => cell_of_cells?_one hc'⟩
      · exact ⟨false, fun h => absurd h hi⟩
    obtain ⟨f, hf'⟩ := Classical.skolem.1 each
    refine ⟨(List.range len).map f, by simp, by unfold maxLen at hm; omega, fun i hi => ?_⟩
    simp only [List.length_map, List.length_range] at hi
    obtain ⟨b, off, spot⟩ := x
    have hc0 := hf' i hi
    have hspot : spot = none := by
      have := World.cell?_spot (hf' 0 (by omega))
      simpa [Addr.add] using this
    subst hspot
    rw [Addr.add_mid] at hc0
    exact ⟨b, off, rfl, by rw [hc0]; simp [List.getD, hi]⟩
end

end Go.Proofs.Qxb6614854a.Lim
