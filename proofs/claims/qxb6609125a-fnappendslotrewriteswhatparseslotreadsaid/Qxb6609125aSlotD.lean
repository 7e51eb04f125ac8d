/-
  'FnAppendSlotRewritesWhatParseSlotRead': THE WALK of the law's own body (function 4), out of its callees' contracts.
-/
import Derived.Test.Qxb6609125aSlotC
namespace Go.Proofs.Qxb6609125a.Slot
open Go.RowKit Go.Proofs.Qxb6609125a.Kit

abbrev fpOf (z : Nat → Int) : Int := num8 (z 0) (z 1) (z 2) (z 3) (z 4) (z 5) (z 6) (z 7)
abbrev fOf (z : Nat → Int) : Int := num4 (z 8) (z 9) (z 10) (z 11)
abbrev lOf (z : Nat → Int) : Int := num4 (z 12) (z 13) (z 14) (z 15)

theorem num8_bd {z : Nat → Int} (hz : ∀ i, IsByte (z i)) : 0 ≤ fpOf z ∧ fpOf z < 18446744073709551616 := by
  have h0 := hz 0; have h1 := hz 1; have h2 := hz 2; have h3 := hz 3; have h4 := hz 4; have h5 := hz 5; have h6 := hz 6; have h7 := hz 7
  unfold IsByte at *; unfold fpOf num8; omega

/-- What 'appendSlot' writes of what 'parseSlot' read are the bytes that were read. -/
theorem slotZ_back {z : Nat → Int} (hz : ∀ i, IsByte (z i)) (i : Nat) (hi : i < 16) : slotZ (fpOf z) (fOf z) (lOf z) i = z i := by
  have h0 := hz 0; have h1 := hz 1; have h2 := hz 2; have h3 := hz 3; have h4 := hz 4; have h5 := hz 5; have h6 := hz 6; have h7 := hz 7
  have h8 := hz 8; have h9 := hz 9; have h10 := hz 10; have h11 := hz 11; have h12 := hz 12; have h13 := hz 13; have h14 := hz 14; have h15 := hz 15
  unfold IsByte at *
  match i, hi with
  | 0, _ => simp only [slotZ, fpOf, num8]; omega
  | 1, _ => simp only [slotZ, fpOf, num8]; omega
  | 2, _ => simp only [slotZ, fpOf, num8]; omega
  | 3, _ => simp only [slotZ, fpOf, num8]; omega
  | 4, _ => simp only [slotZ, fpOf, num8]; omega
  | 5, _ => simp only [slotZ, fpOf, num8]; omega
  | 6, _ => simp only [slotZ, fpOf, num8]; omega
  | 7, _ => simp only [slotZ, fpOf, num8]; omega
  | 8, _ => simp only [slotZ, fOf, num4]; omega
  | 9, _ => simp only [slotZ, fOf, num4]; omega
  | 10, _ => simp only [slotZ, fOf, num4]; omega
  | 11, _ => simp only [slotZ, fOf, num4]; omega
  | 12, _ => simp only [slotZ, lOf, num4]; omega
  | 13, _ => simp only [slotZ, lOf, num4]; omega
  | 14, _ => simp only [slotZ, lOf, num4]; omega
  | 15, _ => simp only [slotZ, lOf, num4]; omega
  | k + 16, h => exact absurd h (by omega)

theorem bytes_of_wf {zs : List Int} (h : ∀ n ∈ zs, (Lit.int .u8 n).wf = true) (i : Nat) : IsByte (zs.getD i 0) := by
  by_cases hi : i < zs.length
  · have hm : zs.getD i 0 ∈ zs := by
      rw [List.getD, List.getElem?_eq_getElem hi]; exact List.getElem_mem hi
    have hw := h _ hm
    have h1 : IntKind.u8.min = 0 := rfl
    have h2 : IntKind.u8.max = 255 := rfl
    simp only [Lit.wf, Bool.and_eq_true, decide_eq_true_eq] at hw
    unfold IsByte; omega
  · have : zs.getD i 0 = 0 := by rw [List.getD, List.getElem?_eq_none (by omega)]; rfl
    rw [this]; unfold IsByte; omega

/-- A clone of sixteen bytes or more, for 'parseSlot'. -/
theorem clone_form {w : World} {B : Nat} {a : Option Addr} {n : Nat} {zs : List Int} (h : w.ownsRow B 5 1 (.slice a n n) n (zs.map (Value.int .u8))) (hz : zs.length = n) (hn : 16 ≤ n) :
    ∃ g, a = some ⟨g, 0, none⟩ ∧ Row16 w g 0 (fun i => zs.getD i 0) := by
  have hh := h
  rcases h.2 with ⟨_, h0⟩ | ⟨g, cap, cur, hv, hb, hg, hnc, _⟩
  · omega
  · simp only [Value.slice.injEq] at hv
    obtain ⟨rfl, _, rfl⟩ := hv
    refine ⟨g, rfl, fun i hi => ?_⟩
    rw [Nat.zero_add, hh.cellAt i (by omega)]
    have : i < zs.length := by omega
    simp [this]

/-- What 'appendSlot' of what was read made of nil: its sixteen bytes. -/
theorem out_nil {w : World} {B : Nat} {v : Value} {z : Nat → Int} (hz : ∀ i, IsByte (z i)) (h : w.ownsRow B 5 1 v (0 + 16) ([] ++ slotCells (fpOf z) (fOf z) (lOf z))) (zs : List Int) (hl : zs.length = 16) (he : ∀ i, i < 16 → zs.getD i 0 = z i) :
    ∃ a cap, v = .slice a 16 cap ∧ InBytes w a zs := by
  obtain ⟨g, cap, hv, hc, _, hr⟩ := out_form (n := 0) (zs := []) (by simpa using h) rfl
  refine ⟨some ⟨g, 0, none⟩, cap, by simpa using hv, fun i hi => ⟨g, 0, rfl, ?_⟩⟩
  rw [hr i (by omega), slotZ_back hz i (by omega), he i (by omega)]

theorem inBytes_take {w : World} {a : Option Addr} {zs : List Int} (h : InBytes w a zs) (m : Nat) : InBytes w a (zs.take m) := fun i hi => by
  simp only [List.length_take] at hi
  obtain ⟨b, off, ha, hc⟩ := h i (by omega)
  exact ⟨b, off, ha, by rw [hc]; simp [List.getD, show i < m by omega]⟩

/-- 'ZZparseSlot' in the short words. -/
theorem f9_short (g o n c : Nat) (z : Nat → Int) (w : World) (hz : ∀ i, IsByte (z i)) (hr : Row16 w g o z) (hn : 16 ≤ n) (hc : n ≤ c) (fp f l : Int) (e1 : fpOf z = fp) (e2 : fOf z = f) (e3 : lOf z = l) :
    Calls Try.prog 9 #[.slice (some ⟨g, o, none⟩) n c] w fun e w' => e = .returned (.tuple #[.int .u64 fp, .int .i64 f, .int .i64 l]) ∧ Below w.heap.size w w' := by
  subst e1 e2 e3
  exact f9_any g o n c z w hz hr hn hc

set_option maxHeartbeats 1000000 in
theorem f4_any (a : Option Addr) (len cap : Nat) (zs : List Int) (w : World) (hn : len ≤ 9223372036854775807) (hs : zs.length = len) (hlc : len ≤ cap) (hnil : a = none → cap = 0) (hc : InBytes w a zs) (hwf : ∀ n ∈ zs, (Lit.int .u8 n).wf = true) :
    Calls Try.prog 4 #[.slice a len cap] w fun e w' => e = .returned (.bool true) ∧ Below w.heap.size w w' := by
  have HS : Hid (zs.length = len) := hs
  have HC : Hid (InBytes w a zs) := hc
  have HZ : Hid (∀ i, IsByte (zs.getD i 0)) := fun i => bytes_of_wf hwf i
  clear hs hc hwf
  by_cases hbig : len ≤ 1048576
  · by_cases hsmall : len < 16
    · have hd : decide (len ≤ 1048576) = true := by simpa using hbig
      go_enter Try.func4, Try.ntmps4
      go_wp2_with fail
      refine (f10_any a len cap _ hn).mono ?_
      rintro e w' ⟨rfl, rfl⟩
      go_wp2
      go_ret
      exact ⟨rfl, Below.refl _ _⟩
    obtain ⟨z, hz0⟩ : ∃ z : Nat → Int, z = fun i => zs.getD i 0 := ⟨_, rfl⟩
    have HZZ : Hid (z = fun i => zs.getD i 0) := hz0
    have HB : Hid (∀ i, IsByte (z i)) := by rw [hz0]; exact HZ.out
    obtain ⟨fp, hfp⟩ : ∃ fp, fpOf z = fp := ⟨_, rfl⟩
    obtain ⟨f, hf⟩ : ∃ f, fOf z = f := ⟨_, rfl⟩
    obtain ⟨l, hl⟩ : ∃ l, lOf z = l := ⟨_, rfl⟩
    have bfp := num8_bd HB.out
    have bf : 0 ≤ fOf z ∧ fOf z < 4294967296 := num4_bd (HB.out _) (HB.out _) (HB.out _) (HB.out _)
    have bl : 0 ≤ lOf z ∧ lOf z < 4294967296 := num4_bd (HB.out _) (HB.out _) (HB.out _) (HB.out _)
    rw [hfp] at bfp
    rw [hf] at bf
    rw [hl] at bl
    have HF : Hid (fpOf z = fp ∧ fOf z = f ∧ lOf z = l) := ⟨hfp, hf, hl⟩
    clear hz0 hfp hf hl
    have hd : decide (len ≤ 1048576) = true := by simpa using hbig
    go_enter Try.func4, Try.ntmps4
    go_wp2_with fail
    refine (f10_any a len cap _ hn).mono ?_
    rintro e w' ⟨rfl, rfl⟩
    go_wp2_with fail
    refine (f7_any a len cap zs _ hbig HS.out hnil HC.out).mono ?_
    rintro e w1 ⟨a1, rfl, ho1, hb1⟩
    obtain ⟨g1, ha1, hr1⟩ := clone_form ho1 HS.out (by omega)
    rw [ha1]
    have HR1 : Hid (Row16 w1 g1 0 z) := by rw [HZZ.out]; exact hr1
    clear ho1 ha1 hr1
    go_wp2_with fail
    refine (f9_short g1 0 len len z _ HB.out HR1.out (by omega) (Nat.le_refl _) fp f l HF.out.1 HF.out.2.1 HF.out.2.2).mono ?_
    rintro e w2 ⟨rfl, hb2⟩
    have hB2 : Below w.heap.size w w2 := hb1.trans (hb2.mono hb1.size)
    clear hb1 hb2 HR1
    go_wp2_with fail
    refine (f8_any w.heap.size 0 fp f l bfp.1 bfp.2 (.slice none 0 0) [] _ (World.ownsRow_nil _ _ _ _) hB2.size (by omega)).mono ?_
    rintro e w3 ⟨v3, rfl, ho3, hb3⟩
    have hB3 : Below w.heap.size w w3 := hB2.trans hb3
    have hq : ∃ a3 c3, v3 = .slice a3 16 c3 ∧ InBytes w3 a3 (zs.take 16) := by
      refine out_nil HB.out (B := w.heap.size) ?_ (zs.take 16) (by have := HS.out; simp; omega) (fun i hi => by rw [HZZ.out]; simp [List.getD, hi])
      rw [HF.out.1, HF.out.2.1, HF.out.2.2]; exact ho3
    obtain ⟨a3, c3, hv3, hi3⟩ := hq
    rw [hv3]
    have HI3 : Hid (InBytes w3 a3 (zs.take 16)) := hi3
    clear hv3 hi3 ho3 hb3 hB2
    go_wp2_with fail
    have hI : InBytes w3 a (zs.take 16) := inBytes_take (inBytes_kept HC.out hB3) 16
    refine (f11_same a3 a 16 c3 cap (zs.take 16) _ (by omega) (by have := HS.out; simp; omega) HI3.out hI).mono ?_
    rintro e w4 ⟨rfl, q4, rfl⟩
    clear hI HI3
    go_wp2_with fail
    refine (f7_any a 16 cap (zs.take 16) _ (by omega) (by have := HS.out; simp; omega) hnil (inBytes_take (inBytes_kept HC.out (below_drewN hB3 q4)) 16)).mono ?_
    rintro e w5 ⟨a5, rfl, ho5, hb5⟩
    have hB5 : Below w.heap.size w w5 := (below_drewN hB3 q4).trans (hb5.mono hB3.size)
    obtain ⟨g5, ha5, hr5⟩ := clone_form ho5 (by have := HS.out; simp; omega) (by omega)
    rw [ha5]
    have HR5 : Hid (Row16 w5 g5 0 z) := fun i hi => by rw [hr5 i hi, HZZ.out]; simp [List.getD, hi]
    clear ho5 ha5 hr5 hb5 hB3
    go_wp2_with fail
    refine (f9_short g5 0 16 16 z _ HB.out HR5.out (by omega) (Nat.le_refl _) fp f l HF.out.1 HF.out.2.1 HF.out.2.2).mono ?_
    rintro e w6 ⟨rfl, hb6⟩
    have hB6 : Below w.heap.size w w6 := hB5.trans (hb6.mono hB5.size)
    clear hb6 hB5 HR5
    go_wp2
    go_ret
    exact ⟨rfl, hB6⟩
  · have hd : decide (len ≤ 1048576) = false := by simpa using hbig
    go_enter Try.func4, Try.ntmps4
    go_wp2_with fail
    refine (f10_any a len cap _ hn).mono ?_
    rintro e w' ⟨rfl, rfl⟩
    go_wp2
    go_ret
    exact ⟨rfl, Below.refl _ _⟩

end Go.Proofs.Qxb6609125a.Slot
