/-
  'FnParseSlotReadsWhatAppendSlotWrote': THE WALK of the law's own body (function 3), out of its callees' contracts.
-/
import Derived.Test.Qxb6609125aSlotB
namespace Go.Proofs.Qxb6609125a.Slot
open Go.RowKit Go.Proofs.Qxb6609125a.Kit

/-- The sixteen bytes that 'appendSlot' writes, as numbers. -/
def slotZ (fp f l : Int) : Nat → Int
  | 0 => fp / 72057594037927936
  | 1 => fp / 281474976710656 % 256
  | 2 => fp / 1099511627776 % 256
  | 3 => fp / 4294967296 % 256
  | 4 => fp / 16777216 % 256
  | 5 => fp / 65536 % 256
  | 6 => fp / 256 % 256
  | 7 => fp % 256
  | 8 => f % 4294967296 / 16777216
  | 9 => f % 4294967296 / 65536 % 256
  | 10 => f % 4294967296 / 256 % 256
  | 11 => f % 4294967296 % 256
  | 12 => l % 4294967296 / 16777216
  | 13 => l % 4294967296 / 65536 % 256
  | 14 => l % 4294967296 / 256 % 256
  | 15 => l % 4294967296 % 256
  | _ => 0

theorem slotZ_byte {fp : Int} (f l : Int) (h0 : 0 ≤ fp) (h1 : fp < 18446744073709551616) (i : Nat) : IsByte (slotZ fp f l i) := by
  unfold IsByte slotZ
  split <;> omega

theorem slotZ_cells (fp f l : Int) (i : Nat) (hi : i < 16) : (slotCells fp f l)[i]? = some (.int .u8 (slotZ fp f l i)) := by
  match i, hi with
  | 0, _ => rfl
  | 1, _ => rfl
  | 2, _ => rfl
  | 3, _ => rfl
  | 4, _ => rfl
  | 5, _ => rfl
  | 6, _ => rfl
  | 7, _ => rfl
  | 8, _ => rfl
  | 9, _ => rfl
  | 10, _ => rfl
  | 11, _ => rfl
  | 12, _ => rfl
  | 13, _ => rfl
  | 14, _ => rfl
  | 15, _ => rfl
  | k + 16, h => exact absurd h (by omega)

theorem num8_slot {fp : Int} (f l : Int) : num8 (slotZ fp f l 0) (slotZ fp f l 1) (slotZ fp f l 2) (slotZ fp f l 3) (slotZ fp f l 4) (slotZ fp f l 5) (slotZ fp f l 6) (slotZ fp f l 7) = fp := by
  simp only [num8, slotZ]; omega
theorem num4_slot_f (fp f l : Int) : num4 (slotZ fp f l 8) (slotZ fp f l 9) (slotZ fp f l 10) (slotZ fp f l 11) = f % 4294967296 := by
  simp only [num4, slotZ]; omega
theorem num4_slot_l (fp f l : Int) : num4 (slotZ fp f l 12) (slotZ fp f l 13) (slotZ fp f l 14) (slotZ fp f l 15) = l % 4294967296 := by
  simp only [num4, slotZ]; omega

/-- 'ZZparseSlot' of what 'appendSlot' wrote. -/
theorem f9_slot (g o n c : Nat) (fp f l : Int) (h0 : 0 ≤ fp) (h1 : fp < 18446744073709551616) (w : World) (hr : Row16 w g o (slotZ fp f l)) (hn : 16 ≤ n) (hc : n ≤ c) :
    Calls Try.prog 9 #[.slice (some ⟨g, o, none⟩) n c] w fun e w' => e = .returned (.tuple #[.int .u64 fp, .int .i64 (f % 4294967296), .int .i64 (l % 4294967296)]) ∧ Below w.heap.size w w' := by
  refine (f9_any g o n c (slotZ fp f l) w (slotZ_byte f l h0 h1) hr hn hc).mono ?_
  rintro e w' ⟨rfl, hb⟩
  rw [num8_slot, num4_slot_f, num4_slot_l]
  exact ⟨rfl, hb⟩

/-- What is known of 'out': its row, its bytes. -/
theorem out_form {w : World} {B : Nat} {v : Value} {n : Nat} {zs : List Int} {fp f l : Int} (h : w.ownsRow B 5 1 v (n + 16) (zs.map (Value.int .u8) ++ slotCells fp f l)) (hz : zs.length = n) :
    ∃ g cap, v = .slice (some ⟨g, 0, none⟩) (n + 16) cap ∧ n + 16 ≤ cap ∧ (∀ i, i < n → w.cell? ⟨g, i, none⟩ = some (.int .u8 (zs.getD i 0))) ∧ Row16 w g n (slotZ fp f l) := by
  have hh := h
  rcases h.2 with ⟨_, h0⟩ | ⟨g, cap, cur, rfl, hb, hg, hnc, _⟩
  · omega
  · refine ⟨g, cap, rfl, hnc, fun i hi => ?_, fun i hi => ?_⟩
    · rw [hh.cellAt i (by omega), List.getElem?_append_left (by simp; omega)]
      have : i < zs.length := by omega
      simp [this]
    · rw [hh.cellAt (n + i) (by omega), List.getElem?_append_right (by simp; omega)]
      rw [show n + i - (zs.map (Value.int .u8)).length = i by simp; omega]
      exact slotZ_cells fp f l i hi

set_option maxHeartbeats 1000000 in
theorem f3_any (a : Option Addr) (len cap : Nat) (fp f l : Int) (h0 : 0 ≤ fp) (h1 : fp < 18446744073709551616) (zs : List Int) (w : World) (hn : len ≤ 9223372036854775807) (hs : zs.length = len) (hnil : a = none → cap = 0) (hc : InBytes w a zs) :
    Calls Try.prog 3 #[.slice a len cap, .int .u64 fp, .int .i64 f, .int .i64 l] w fun e w' => e = .returned (.bool true) ∧ Below w.heap.size w w' := by
  have HS : Hid (zs.length = len) := hs
  clear hs
  have HC : Hid (InBytes w a zs) := hc
  clear hc
  by_cases hbig : len ≤ 1048576
  · have hd : decide (len ≤ 1048576) = true := by simpa using hbig
    go_enter Try.func3, Try.ntmps3
    go_wp2_with fail
    refine (f6_any a len cap fp f l _ hn).mono ?_
    rintro e w' ⟨rfl, rfl⟩
    go_wp2_with fail
    refine (f7_any a len cap zs _ hbig HS.out hnil HC.out).mono ?_
    rintro e w1 ⟨a1, rfl, ho1, hb1⟩
    have HO1 : Hid (w1.ownsRow w.heap.size 5 1 (.slice a1 len len) len (zs.map (Value.int .u8))) := ho1
    clear ho1
    go_wp2_with fail
    refine (f8_any w.heap.size len fp f l h0 h1 _ _ _ HO1.out hb1.size hbig).mono ?_
    rintro e w2 ⟨v2, rfl, ho2, hb2⟩
    obtain ⟨g, c2, hv2, hc2, hpre, hrow⟩ := out_form ho2 HS.out
    have HP : Hid (∀ i, i < len → w2.cell? ⟨g, i, none⟩ = some (.int .u8 (zs.getD i 0))) := hpre
    have HR : Hid (Row16 w2 g len (slotZ fp f l)) := hrow
    have hB : Below w.heap.size w w2 := hb1.trans hb2
    have HC2 : Hid (InBytes w2 a zs) := inBytes_kept HC.out hB
    rw [hv2]
    clear ho2 hb1 hb2 HO1 hpre hrow hv2 HC hd
    go_wp2
    go_loopw [11] (fun i wr => ∃ t q : Nat, t ≤ len ∧ i = .int .i64 t ∧ wr = w2.drewN q) (fun i _ => len - (intOf i).toNat)
    case atStart => exact ⟨0, 0, Nat.zero_le _, rfl, rfl⟩
    case round =>
      obtain ⟨t, q, ht, rfl, rfl⟩ := hrel
      by_cases hlt : t < len
      · obtain ⟨b1, o1, rfl, e1⟩ := HC2.out t (by have := HS.out; omega)
        have e2 := HP.out t hlt
        generalize zs.getD t 0 = z at e1 e2
        go_wp2
        go_quiet (fail)
        go_wp2
        go_roundw
        case rel => exact ⟨t + 1, _, by omega, by go_num, rfl⟩
        case measure => simp [intOf]; omega
      · have hne : ¬ c2 = len := by omega
        have i3 : ((len + 16 : Nat) : Int) ≤ (c2 : Int) := by omega
        go_wp2_with fail
        refine (f9_slot g len _ _ fp f l h0 h1 _ ?_ (Nat.le_refl _) ?_).mono ?_
        · intro i hi
          simpa using HR.out i hi
        · omega
        rintro e w3 ⟨rfl, hb3⟩
        have hB3 : Below w.heap.size w w3 := hB.trans ((Below.trans (below_drewN (Below.refl _ _) q) hb3).mono hB.size)
        clear hb3
        go_wp2
        go_ret
        exact ⟨rfl, hB3⟩
  · have hd : decide (len ≤ 1048576) = false := by simpa using hbig
    go_enter Try.func3, Try.ntmps3
    go_wp2_with fail
    refine (f6_any a len cap fp f l _ hn).mono ?_
    rintro e w' ⟨rfl, rfl⟩
    go_wp2
    go_ret
    exact ⟨rfl, Below.refl _ _⟩

/-- WHAT THE WALK IS TOLD OF A SLICE OF BYTES THAT CAME IN (the shell's own words). -/
def IsRow (k : IntKind) (w : World) (a : Option Addr) (len cap : Nat) (zs : List Int) : Prop :=
  (a = none ∧ len = 0 ∧ cap = 0 ∧ zs = []) ∨
  ∃ x, a = some x ∧ len ≤ cap ∧ cap ≤ maxLen ∧ zs.length = cap ∧ (∀ i, i < zs.length → w.cell? (x.add i) = some (.int k (zs.getD i 0))) ∧ ∀ n ∈ zs, (Lit.int k n).wf = true

theorem row_opened {w : World} {a : Option Addr} {len cap : Nat} {zs : List Int} (h : IsRow .u8 w a len cap zs) :
    (zs.take len).length = len ∧ len ≤ 9223372036854775807 ∧ len ≤ cap ∧ (a = none → cap = 0) ∧ InBytes w a (zs.take len) ∧ ∀ n ∈ zs.take len, (Lit.int .u8 n).wf = true := by
  rcases h with ⟨rfl, rfl, rfl, rfl⟩ | ⟨x, rfl, hl, hm, hz, hcell, hwf⟩
  · exact ⟨rfl, by omega, Nat.le_refl _, fun _ => rfl, fun i hi => absurd hi (Nat.not_lt_zero _), fun n hn => by simp at hn⟩
  · refine ⟨by simp; omega, by unfold maxLen at hm; omega, hl, (fun h => by simp at h), fun i hi => ?_, fun n hn => hwf n (List.mem_of_mem_take hn)⟩
    simp only [List.length_take] at hi
    obtain ⟨b, off, spot⟩ := x
    have hc0 := hcell i (by omega)
    have hspot : spot = none := by
      have := World.cell?_spot (hcell 0 (by omega))
      simpa [Addr.add] using this
    subst hspot
    rw [Addr.add_mid] at hc0
    refine ⟨b, off, rfl, ?_⟩
    rw [hc0]
    simp [List.getD, show i < len by omega]

end Go.Proofs.Qxb6609125a.Slot
