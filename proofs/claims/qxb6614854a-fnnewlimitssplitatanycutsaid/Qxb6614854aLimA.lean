/-
  'FnNewLimits..': the leaves: the bounds on lengths (5, 10), skipped (11), lastSetter (8), lastSetDepth (7), the two makers of options (12, 13).
-/
import Derived.Test.Qxb6614854aRows
import Derived.Test.Qxb6614854aKit
import Derived.Deep.QuietTactic
import Derived.BigQuiet
namespace Go.Proofs.Qxb6614854a.Lim
open Go.RowKit Go.Proofs.Qxb6614854a.Kit

/-- A slice of bools in memory. -/
def InBools (w : World) (a : Option Addr) (bs : List Bool) : Prop :=
  ∀ i, i < bs.length → ∃ b off, a = some ⟨b, off, none⟩ ∧ w.cell? ⟨b, off + i, none⟩ = some (.bool (bs.getD i false))
/-- A slice of ints in memory. -/
def InInts (w : World) (a : Option Addr) (zs : List Int) : Prop :=
  ∀ i, i < zs.length → ∃ b off, a = some ⟨b, off, none⟩ ∧ w.cell? ⟨b, off + i, none⟩ = some (.int .i64 (zs.getD i 0))

theorem inBools_kept {w w' : World} {a : Option Addr} {bs : List Bool} (h : InBools w a bs) (hb : Below w.heap.size w w') : InBools w' a bs := fun i hi => by
  obtain ⟨b, off, ha, hc⟩ := h i hi
  exact ⟨b, off, ha, cell_kept hb (Nat.le_refl _) hc⟩
theorem inInts_kept {w w' : World} {a : Option Addr} {zs : List Int} (h : InInts w a zs) (hb : Below w.heap.size w w') : InInts w' a zs := fun i hi => by
  obtain ⟨b, off, ha, hc⟩ := h i hi
  exact ⟨b, off, ha, cell_kept hb (Nat.le_refl _) hc⟩

/-- It ends by handing back one bool. -/
def RetBool (e : Ending) : Prop := ∃ r, e = .returned (.bool r)
theorem retBool (r : Bool) : RetBool (.returned (.bool r)) := ⟨r, rfl⟩

set_option maxHeartbeats 400000 in
theorem f5_any (a b : Option Addr) (n c m d : Nat) (w : World) (hn : n ≤ 9223372036854775807) (hm : m ≤ 9223372036854775807) :
    Calls Try.prog 5 #[.slice a n c, .slice b m d] w fun e w' => RetBool e ∧ w = w' := by
  go_enter Try.func5, Try.ntmps5
  go_wp2
  all_goals (go_ret; exact ⟨retBool _, rfl⟩)
set_option maxHeartbeats 400000 in
theorem f10_any (a b : Option Addr) (n c m d : Nat) (k : Int) (w : World) (hn : n ≤ 9223372036854775807) (hm : m ≤ 9223372036854775807) :
    Calls Try.prog 10 #[.slice a n c, .slice b m d, .int .i64 k] w fun e w' => RetBool e ∧ w = w' := by
  go_enter Try.func10, Try.ntmps10
  go_wp2
  all_goals (go_ret; exact ⟨retBool _, rfl⟩)

/-- Option i is skipped. -/
def sk (bs : List Bool) (i : Nat) : Bool := bs.getD i false

set_option maxHeartbeats 400000 in
/-- 'skipped'. -/
theorem f11_any (a : Option Addr) (len cap : Nat) (bs : List Bool) (i : Nat) (w : World) (hs : bs.length = len) (hc : InBools w a bs) :
    Calls Try.prog 11 #[.slice a len cap, .int .i64 i] w fun e w' => e = .returned (.bool (sk bs i)) ∧ w = w' := by
  by_cases hi : i < len
  · obtain ⟨b, off, rfl, hcell⟩ := hc i (by omega)
    have hq : bs.getD i false = sk bs i := rfl
    rw [hq] at hcell
    generalize sk bs i = v at hcell ⊢
    have hi3 : (i : Int) < (len : Int) := by omega
    clear hq hc hs
    go_enter Try.func11, Try.ntmps11
    go_wp2
    go_ret
    exact ⟨rfl, rfl⟩
  · have hq : sk bs i = false := by rw [sk, List.getD, List.getElem?_eq_none (by omega)]; rfl
    rw [hq]
    have hi3 : ¬ (i : Int) < (len : Int) := by omega
    clear hq hs hc
    go_enter Try.func11, Try.ntmps11
    go_wp2
    go_ret
    exact ⟨rfl, rfl⟩

/-- The last of the options lo .. n-1 that is not skipped; -1 where there is none. -/
def lastS (bs : List Bool) (lo : Nat) : Nat → Int
  | 0 => -1
  | n + 1 => if lo ≤ n then (if sk bs n = true then lastS bs lo n else n) else -1

set_option maxHeartbeats 400000 in
/-- 'lastSetter'. -/
theorem f8_any (a : Option Addr) (len cap : Nat) (bs : List Bool) (lo hi : Nat) (w : World) (hs : bs.length = len) (hlo : lo ≤ 1048576) (hhi : hi ≤ 1048576) (hc : InBools w a bs) :
    Calls Try.prog 8 #[.slice a len cap, .int .i64 lo, .int .i64 hi] w fun e w' => e = .returned (.int .i64 (lastS bs lo hi)) ∧ w = w' := by
  have HC := hide hc
  have HS := hide hs
  clear hc hs
  go_enter Try.func8, Try.ntmps8
  go_wp2_with fail
  go_loop [7] (fun i => ∃ j : Nat, j ≤ hi ∧ i = .int .i64 ((j : Int) - 1) ∧ Hid (lastS bs lo j = lastS bs lo hi)) (fun i => (intOf i + 1).toNat)
  case atStart => exact ⟨hi, Nat.le_refl _, rfl, rfl⟩
  case round =>
    obtain ⟨j, hj, rfl, HJ⟩ := hrel
    by_cases hlt : j < lo + 1
    · have hq : lastS bs lo j = -1 := by
        cases j with
        | zero => rfl
        | succ n => rw [lastS, if_neg (by omega)]
      have HQ := hide hq
      clear hq
      go_wp2_with fail
      go_ret
      exact ⟨by rw [← HJ.out, HQ.out]; rfl, rfl⟩
    · obtain ⟨n, rfl⟩ : ∃ n, j = n + 1 := ⟨j - 1, by omega⟩
      have e1 : ((n + 1 : Nat) : Int) - 1 = (n : Int) := by omega
      rw [e1]
      have hle : (lo : Int) ≤ (n : Int) := by omega
      clear e1
      go_wp2_with fail
      refine (f11_any a len cap bs n _ HS.out HC.out).mono ?_
      rintro e w' ⟨rfl, rfl⟩
      cases hsk : sk bs n with
      | true =>
        have HK := hide hsk
        clear hsk
        go_wp2_with fail
        go_round
        case rel => exact ⟨n, by omega, rfl, by show _ = _; rw [← HJ.out, lastS, if_pos (by omega), if_pos HK.out]⟩
        case measure => simp [intOf]
      | false =>
        have HK := hide hsk
        clear hsk
        go_wp2_with fail
        go_ret
        exact ⟨by rw [← HJ.out, lastS, if_pos (by omega), if_neg (by rw [HK.out]; decide)]; rfl, rfl⟩

theorem lastS_bd (bs : List Bool) (lo : Nat) : ∀ hi : Nat, -1 ≤ lastS bs lo hi ∧ lastS bs lo hi < hi
  | 0 => by simp [lastS]
  | n + 1 => by
    have h := lastS_bd bs lo n
    rw [lastS]
    split
    · split <;> omega
    · omega

/-- The depth of the last setter among lo .. hi-1; 10000 where there is none. -/
def lastD (zs : List Int) (bs : List Bool) (lo hi : Nat) : Int := if lastS bs lo hi < 0 then 10000 else zs.getD (lastS bs lo hi).toNat 0

set_option maxHeartbeats 400000 in
/-- 'lastSetDepth'. -/
theorem f7_any (a b : Option Addr) (n c m d : Nat) (zs : List Int) (bs : List Bool) (lo hi : Nat) (w : World) (hz : zs.length = n) (hs : bs.length = m) (hlo : lo ≤ 1048576) (hn : n ≤ 1048576) (hhi : hi ≤ n) (hi1 : InInts w a zs) (hc : InBools w b bs) :
    Calls Try.prog 7 #[.slice a n c, .slice b m d, .int .i64 lo, .int .i64 hi] w fun e w' => e = .returned (.int .i64 (lastD zs bs lo hi)) ∧ w = w' := by
  have HC := hide hc
  have HS := hide hs
  have HI := hide hi1
  have HZ := hide hz
  clear hc hs hi1 hz
  have hb := lastS_bd bs lo hi
  go_enter Try.func7, Try.ntmps7
  go_wp2_with fail
  refine (f8_any b m d bs lo hi _ HS.out hlo (by omega) HC.out).mono ?_
  rintro e w' ⟨rfl, rfl⟩
  have hd : lastD zs bs lo hi = if lastS bs lo hi < 0 then 10000 else zs.getD (lastS bs lo hi).toNat 0 := rfl
  have HD := hide hd
  clear hd
  generalize lastS bs lo hi = L at hb HD ⊢
  by_cases hneg : L < 0
  · go_wp2_with fail
    go_ret
    exact ⟨by rw [HD.out, if_pos hneg]; rfl, rfl⟩
  · obtain ⟨l, rfl⟩ := Int.eq_ofNat_of_zero_le (show 0 ≤ L by omega)
    obtain ⟨pb, po, rfl, hcell⟩ := HI.out l (by have := HZ.out; omega)
    rw [Int.toNat_natCast] at HD
    generalize zs.getD l 0 = z at hcell HD
    have hl3 : (l : Int) < (n : Int) := by omega
    go_wp2_with fail
    go_ret
    exact ⟨by rw [HD.out, if_neg (by omega)]; rfl, rfl⟩

set_option maxHeartbeats 400000 in
/-- 'ZZOptNone'. -/
theorem f12_any (w : World) : Calls Try.prog 12 #[] w fun e w' => e = .returned (.func (.func 14) #[] #[]) ∧ w = w' := by
  go_enter Try.func12, Try.ntmps12
  go_wp2_with fail
  go_ret
  exact ⟨rfl, rfl⟩

set_option maxHeartbeats 400000 in
/-- 'ZZOptSetMaxDepth'. -/
theorem f13_any (z : Int) (w : World) : Calls Try.prog 13 #[.int .i64 z] w fun e w' => e = .returned (.func (.func 15) #[] #[.pointer (some ⟨w.heap.size, 0, none⟩)]) ∧ w.alloc (.cells #[.int .i64 z] 3) = w' := by
  go_enter Try.func13, Try.ntmps13
  go_wp2_with fail
  go_ret
  exact ⟨rfl, rfl⟩

set_option maxHeartbeats 400000 in
/-- The option that sets nothing. -/
theorem f14_any (p : Addr) (w : World) : Calls Try.prog 14 #[.pointer (some p)] w fun e w' => e = .returned (.tuple #[]) ∧ w = w' := by
  go_enter Try.func14, Try.ntmps14
  go_wp2_with fail
  go_end0
  exact ⟨rfl, rfl⟩

set_option maxHeartbeats 400000 in
/-- The option that sets the depth. -/
theorem f15_any (b o : Nat) (c : Addr) (old z : Int) (w : World) (hc : w.cell? c = some (.int .i64 z)) (hl : w.cell? ⟨b, o, none⟩ = some (.int .i64 old)) (hf : w.frozen? ⟨b, o, none⟩ = false) :
    Calls Try.prog 15 #[.pointer (some ⟨b, o, none⟩), .pointer (some c)] w fun e w' => e = .returned (.tuple #[]) ∧ w.setCell ⟨b, o, none⟩ (.int .i64 z) = w' := by
  go_enter Try.func15, Try.ntmps15
  go_wp2_with fail
  go_end0
  exact ⟨rfl, rfl⟩

end Go.Proofs.Qxb6614854a.Lim
