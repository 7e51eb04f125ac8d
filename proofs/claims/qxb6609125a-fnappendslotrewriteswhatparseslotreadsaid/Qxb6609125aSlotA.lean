/-
  'FnParseSlotReadsWhatAppendSlotWrote', 'FnAppendSlotRewritesWhatParseSlotRead': THE LEAVES: the bounds on lengths (6, 10), the clone (7), the comparison (11), the four methods of binary.BigEndian (19 to 22).
-/
import Derived.Test.Qxb6609125aRows
import Derived.Test.Qxb6609125aKit
import Derived.Lib.EndianBits
import Derived.Stop.LaidErr
import Derived.Lib.Walk
import Derived.Deep.QuietTactic
import Derived.BigQuiet
namespace Go.Proofs.Qxb6609125a.Slot
open Go.RowKit Go.Proofs.Qxb6609125a.Kit

/-- A slice of bytes in memory, at the address 'a': its elements are 'zs'. Where there is none, nothing is said of the address. -/
def InBytes (w : World) (a : Option Addr) (zs : List Int) : Prop :=
  ∀ i, i < zs.length → ∃ b off, a = some ⟨b, off, none⟩ ∧ w.cell? ⟨b, off + i, none⟩ = some (.int .u8 (zs.getD i 0))

theorem inBytes_kept {w w' : World} {a : Option Addr} {zs : List Int} (h : InBytes w a zs) (hb : Below w.heap.size w w') : InBytes w' a zs := fun i hi => by
  obtain ⟨b, off, ha, hc⟩ := h i hi
  exact ⟨b, off, ha, cell_kept hb (Nat.le_refl _) hc⟩

theorem info5 : (Try.prog.info? 5).map (fun i => (i.zero, i.size, i.bytes)) = some (some (.int .u8 0), 1, 1) := by kernel_rfl
theorem size5 : (Try.prog.info? 5).map (·.size) = some 1 := by kernel_rfl

set_option maxHeartbeats 400000 in
/-- 'zzBytes_FnParseSlotReadsWhatAppendSlotWrote': false beyond the bound. -/
theorem f6_any (a : Option Addr) (len cap : Nat) (x y z : Int) (w : World) (hn : len ≤ 9223372036854775807) :
    Calls Try.prog 6 #[.slice a len cap, .int .u64 x, .int .i64 y, .int .i64 z] w fun e w' => e = .returned (.bool (decide (len ≤ 1048576))) ∧ w = w' := by
  by_cases h : len ≤ 1048576
  · have h' : decide (len ≤ 1048576) = true := by simpa using h
    rw [h']
    clear h'
    go_enter Try.func6, Try.ntmps6
    go_wp2
    go_ret
    exact ⟨rfl, rfl⟩
  · have h' : decide (len ≤ 1048576) = false := by simpa using h
    rw [h']
    clear h'
    go_enter Try.func6, Try.ntmps6
    go_wp2
    go_ret
    exact ⟨rfl, rfl⟩

set_option maxHeartbeats 400000 in
/-- 'zzBytes_FnAppendSlotRewritesWhatParseSlotRead': false beyond the bound. -/
theorem f10_any (a : Option Addr) (len cap : Nat) (w : World) (hn : len ≤ 9223372036854775807) :
    Calls Try.prog 10 #[.slice a len cap] w fun e w' => e = .returned (.bool (decide (len ≤ 1048576))) ∧ w = w' := by
  by_cases h : len ≤ 1048576
  · have h' : decide (len ≤ 1048576) = true := by simpa using h
    rw [h']
    clear h'
    go_enter Try.func10, Try.ntmps10
    go_wp2
    go_ret
    exact ⟨rfl, rfl⟩
  · have h' : decide (len ≤ 1048576) = false := by simpa using h
    rw [h']
    clear h'
    go_enter Try.func10, Try.ntmps10
    go_wp2
    go_ret
    exact ⟨rfl, rfl⟩

set_option maxHeartbeats 400000 in
theorem f7_nil (w : World) : Calls Try.prog 7 #[.slice none 0 0] w fun e w' => e = .returned (.slice none 0 0) ∧ w' = w := by
  have hn := fun (w : World) => Lib.run_eql_slice_nil (P := Try.prog) w 22 5 none 0 0 0 0 Try.underlying22
  go_enter Try.func7, Try.ntmps7
  go_wp2
  go_ret
  exact ⟨rfl, rfl⟩

/-- A row of bytes, all of it the slice's. -/
theorem owns_row {w : World} {g n : Nat} {xs : List Value} {base : Nat} (hb : base ≤ g) (hn : n ≤ 1048576) (hx : xs.length = n) (h : w.heap[g]? = some (.cells xs.toArray 5 (0, 0))) :
    w.ownsRow base 5 1 (.slice (some ⟨g, 0, none⟩) n n) n xs :=
  ⟨by omega, .inr ⟨g, n, xs.toArray, rfl, hb, h, Nat.le_refl _, by unfold maxLen; omega, by simp [hx], by simp [← hx]⟩⟩

set_option maxHeartbeats 400000 in
theorem f7_some (x : Addr) (len cap : Nat) (zs : List Int) (w : World) (hl : len ≤ 1048576) (hs : zs.length = len) (hc : InBytes w (some x) zs) :
    Calls Try.prog 7 #[.slice (some x) len cap] w fun e w' => ∃ a', e = .returned (.slice a' len len) ∧ w'.ownsRow w.heap.size 5 1 (.slice a' len len) len (zs.map (Value.int .u8)) ∧ Below w.heap.size w w' := by
  have hn := fun (w : World) => Lib.run_eql_slice_nil (P := Try.prog) w 22 5 (some x) len cap 0 0 Try.underlying22
  have HS : Hid (zs.length = len) := hs
  clear hs
  go_enter Try.func7, Try.ntmps7
  obtain ⟨cs, hcs⟩ : ∃ cs, cs = zs.map (Value.int .u8) := ⟨_, rfl⟩
  have HC : Hid (cs = zs.map (Value.int .u8)) := hcs
  clear hcs
  go_wp2_with (at_make; refine wpList_make_row _ rfl (.tmp 7) (.tmp 7) 22 rfl 5 _ 1 1 Try.underlying22 info5 _ _ _ _ len rfl rfl rfl rfl (by omega) (by omega) ?_)
  intro w1 hrow hb hz
  go_wp2_with (refine wpList_copy_splice rfl (.tmp 9) (.tmp 10) 22 22 rfl 5 Try.underlying22 size5 _ _ _ _ _ _ rfl rfl w.heap.size 0 (madeCells (Value.int .u8 0).cells (len * 1)).toList 5 ?c1 cs ?c2 ?c3 ?c4 ?c5 w.heap.size w hb (Nat.le_refl _) ?_)
  case c1 => simpa [Value.cells] using hrow.out
  case c2 => rw [HC.out, List.length_map, HS.out]; exact (Nat.min_self len).symm
  case c3 =>
    intro _ j v hv
    rw [HC.out] at hv
    have hj : j < zs.length := by
      have := (List.getElem?_eq_some_iff.1 hv).1
      simpa using this
    obtain ⟨b, off, hx, hcell⟩ := hc j hj
    obtain rfl := Option.some.inj hx
    rw [Addr.add_mid, cell_kept hb (Nat.le_refl _) hcell, ← hv]
    simp [hj]
  case c4 => simp only [Array.length_toList, size_madeCells]; rw [HC.out, List.length_map, HS.out]; omega
  case c5 => intro v hv; rw [HC.out] at hv; obtain ⟨_, _, rfl⟩ := List.mem_map.1 hv; rfl
  intro w2 hrow2 hb2
  go_wp2
  go_ret
  have e : splice (madeCells #[Value.int .u8 0] len).toList 0 (zs.map (Value.int .u8)) = zs.map (Value.int .u8) := by
    have := HS.out
    simp [splice, size_madeCells, this]
  have h2 := hrow2.out
  rw [HC.out, e] at h2
  exact ⟨_, rfl, owns_row (Nat.le_refl _) hl (by simpa using HS.out) h2, hb2⟩

/-- 'zzCloneBytes': a fresh copy; nil stays nil. -/
theorem f7_any (a : Option Addr) (len cap : Nat) (zs : List Int) (w : World) (hl : len ≤ 1048576) (hs : zs.length = len) (h0 : a = none → cap = 0) (hc : InBytes w a zs) :
    Calls Try.prog 7 #[.slice a len cap] w fun e w' => ∃ a', e = .returned (.slice a' len len) ∧ w'.ownsRow w.heap.size 5 1 (.slice a' len len) len (zs.map (Value.int .u8)) ∧ Below w.heap.size w w' := by
  cases a with
  | some x => exact f7_some x len cap zs w hl hs hc
  | none =>
    have hcap := h0 rfl
    have hlen : len = 0 := by
      by_cases h : 0 < zs.length
      · obtain ⟨b, off, h, _⟩ := hc 0 h; simp at h
      · omega
    subst hcap hlen
    have hz : zs = [] := List.eq_nil_of_length_eq_zero hs
    subst hz
    refine (f7_nil w).mono ?_
    rintro e w' ⟨rfl, rfl⟩
    exact ⟨none, rfl, World.ownsRow_nil _ _ _ _, Below.refl _ _⟩

set_option maxHeartbeats 400000 in
/-- 'zzSameBytes' at two slices of the same bytes: true. -/
theorem f11_same (a b : Option Addr) (len c1 c2 : Nat) (zs : List Int) (w : World) (hl : len ≤ 1048576) (hs : zs.length = len) (ha : InBytes w a zs) (hb : InBytes w b zs) :
    Calls Try.prog 11 #[.slice a len c1, .slice b len c2] w fun e w' => e = .returned (.bool true) ∧ ∃ q, w' = w.drewN q := by
  have HS : Hid (zs.length = len) := hs
  clear hs
  have HA : Hid (InBytes w a zs) := ha
  have HB : Hid (InBytes w b zs) := hb
  clear ha hb
  go_enter Try.func11, Try.ntmps11
  go_wp2
  go_loopw [5] (fun i wr => ∃ k q : Nat, k ≤ len ∧ i = .int .i64 k ∧ wr = w.drewN q) (fun i _ => len - (intOf i).toNat)
  case atStart => exact ⟨0, 0, Nat.zero_le _, rfl, rfl⟩
  case round =>
    obtain ⟨k, q, hk, rfl, rfl⟩ := hrel
    by_cases hlt : k < len
    · obtain ⟨b1, o1, rfl, e1⟩ := HA.out k (by have := HS.out; omega)
      obtain ⟨b2, o2, rfl, e2⟩ := HB.out k (by have := HS.out; omega)
      generalize zs.getD k 0 = z at e1 e2
      go_wp2
      go_quiet (fail)
      go_wp2
      go_roundw
      case rel => exact ⟨k + 1, _, by omega, by go_num, rfl⟩
      case measure => simp [intOf]; omega
    · go_wp2
      go_ret
      exact ⟨rfl, q, rfl⟩

/-- The number that eight bytes spell, the greatest first. -/
def num8 (z0 z1 z2 z3 z4 z5 z6 z7 : Int) : Int := z7 + z6 * 256 + z5 * 65536 + z4 * 16777216 + z3 * 4294967296 + z2 * 1099511627776 + z1 * 281474976710656 + z0 * 72057594037927936
/-- The number that four bytes spell, the greatest first. -/
def num4 (z0 z1 z2 z3 : Int) : Int := z3 + z2 * 256 + z1 * 65536 + z0 * 16777216
def IsByte (z : Int) : Prop := 0 ≤ z ∧ z ≤ 255

set_option maxHeartbeats 4000000 in
set_option maxRecDepth 100000 in
/-- '(bigEndian).Uint64'. -/
theorem f21_any (g o n c : Nat) (z0 z1 z2 z3 z4 z5 z6 z7 : Int) (w : World) (hn : 8 ≤ n)
    (c0 : w.cell? ⟨g, o, none⟩ = some (.int .u8 z0)) (c1 : w.cell? ⟨g, o + 1, none⟩ = some (.int .u8 z1)) (c2 : w.cell? ⟨g, o + 2, none⟩ = some (.int .u8 z2)) (c3 : w.cell? ⟨g, o + 3, none⟩ = some (.int .u8 z3))
    (c4 : w.cell? ⟨g, o + 4, none⟩ = some (.int .u8 z4)) (c5 : w.cell? ⟨g, o + 5, none⟩ = some (.int .u8 z5)) (c6 : w.cell? ⟨g, o + 6, none⟩ = some (.int .u8 z6)) (c7 : w.cell? ⟨g, o + 7, none⟩ = some (.int .u8 z7))
    (b0 : IsByte z0) (b1 : IsByte z1) (b2 : IsByte z2) (b3 : IsByte z3) (b4 : IsByte z4) (b5 : IsByte z5) (b6 : IsByte z6) (b7 : IsByte z7) :
    Calls Try.prog 21 #[.agg #[], .slice (some ⟨g, o, none⟩) n c] w fun e w' => e = .returned (.int .u64 (num8 z0 z1 z2 z3 z4 z5 z6 z7)) ∧ Below w.heap.size w w' := by
  unfold IsByte at b0 b1 b2 b3 b4 b5 b6 b7
  have d0 := cell?_alloc_old (.cells #[] 55) c0
  have d1 := cell?_alloc_old (.cells #[] 55) c1
  have d2 := cell?_alloc_old (.cells #[] 55) c2
  have d3 := cell?_alloc_old (.cells #[] 55) c3
  have d4 := cell?_alloc_old (.cells #[] 55) c4
  have d5 := cell?_alloc_old (.cells #[] 55) c5
  have d6 := cell?_alloc_old (.cells #[] 55) c6
  have d7 := cell?_alloc_old (.cells #[] 55) c7
  clear c0 c1 c2 c3 c4 c5 c6 c7
  have hv : num8 z0 z1 z2 z3 z4 z5 z6 z7 = z7 + z6 * 256 + z5 * 65536 + z4 * 16777216 + z3 * 4294967296 + z2 * 1099511627776 + z1 * 281474976710656 + z0 * 72057594037927936 := rfl
  have HV : Hid _ := hv
  clear hv
  have q0 : 0 < n := by omega
  have q1 : (1 : Int) < (n : Int) := by omega
  have q2 : (2 : Int) < (n : Int) := by omega
  have q3 : (3 : Int) < (n : Int) := by omega
  have q4 : (4 : Int) < (n : Int) := by omega
  have q5 : (5 : Int) < (n : Int) := by omega
  have q6 : (6 : Int) < (n : Int) := by omega
  have q7 : (7 : Int) < (n : Int) := by omega
  go_enter Try.func21, Try.ntmps21
  go_wp2
  go_quiet (fail)
  go_wp2
  go_ret
  refine ⟨?_, ((Below.refl _ w).alloc (Nat.le_refl _) _).trans ⟨rfl, rfl, rfl, Nat.le_refl _, fun _ _ => rfl⟩⟩
  simp (disch := omega) only [u64_or8, u64_or16, u64_or24, u64_or32, u64_or40, u64_or48, u64_or56]
  rw [HV.out]
  rfl

set_option maxHeartbeats 4000000 in
set_option maxRecDepth 100000 in
/-- '(bigEndian).Uint32'. -/
theorem f22_any (g o n c : Nat) (z0 z1 z2 z3 : Int) (w : World) (hn : 4 ≤ n)
    (c0 : w.cell? ⟨g, o, none⟩ = some (.int .u8 z0)) (c1 : w.cell? ⟨g, o + 1, none⟩ = some (.int .u8 z1)) (c2 : w.cell? ⟨g, o + 2, none⟩ = some (.int .u8 z2)) (c3 : w.cell? ⟨g, o + 3, none⟩ = some (.int .u8 z3))
    (b0 : IsByte z0) (b1 : IsByte z1) (b2 : IsByte z2) (b3 : IsByte z3) :
    Calls Try.prog 22 #[.agg #[], .slice (some ⟨g, o, none⟩) n c] w fun e w' => e = .returned (.int .u32 (num4 z0 z1 z2 z3)) ∧ Below w.heap.size w w' := by
  unfold IsByte at b0 b1 b2 b3
  have d0 := cell?_alloc_old (.cells #[] 55) c0
  have d1 := cell?_alloc_old (.cells #[] 55) c1
  have d2 := cell?_alloc_old (.cells #[] 55) c2
  have d3 := cell?_alloc_old (.cells #[] 55) c3
  clear c0 c1 c2 c3
  have hv : num4 z0 z1 z2 z3 = z3 + z2 * 256 + z1 * 65536 + z0 * 16777216 := rfl
  have HV : Hid _ := hv
  clear hv
  have q0 : 0 < n := by omega
  have q1 : (1 : Int) < (n : Int) := by omega
  have q2 : (2 : Int) < (n : Int) := by omega
  have q3 : (3 : Int) < (n : Int) := by omega
  go_enter Try.func22, Try.ntmps22
  go_wp2
  go_quiet (fail)
  go_wp2
  go_ret
  refine ⟨?_, ((Below.refl _ w).alloc (Nat.le_refl _) _).trans ⟨rfl, rfl, rfl, Nat.le_refl _, fun _ _ => rfl⟩⟩
  simp (disch := omega) only [u32_or8, u32_or16, u32_or24]
  rw [HV.out]
  rfl

/-- The cells of the second of two new blocks. -/
theorem cells_two_new (w : World) (A : Obj) (cs : List Value) (e : TypeId) : ∀ j u, cs[j]? = some u → ((w.alloc A).alloc (.cells cs.toArray e)).cell? ((⟨w.heap.size + 1, 0, none⟩ : Addr).add j) = some u := fun j u hu => by
  rw [Addr.add_mid, cell_of_row _ _ _ _ _ _ (heap_alloc2_new w A _), Nat.zero_add]
  simpa using hu

/-- Two new blocks, then a growth. -/
theorem grown_two {w w' : World} {A B : Obj} {row : Option Nat} (h : ((w.alloc A).alloc B).grownBy w' row) : w.grownBy w' row := by
  have s1 : (w.alloc A).heap.size = w.heap.size + 1 := by show (w.heap.push A).size = _; simp
  have s2 : ((w.alloc A).alloc B).heap.size = w.heap.size + 2 := by show ((w.alloc A).heap.push B).size = _; simp [s1]
  have hs := h.size
  exact ⟨h.os, h.tape, h.output, by omega, fun k hk hne => by rw [h.block k (by omega) hne, Below.heap_alloc _ _ _ (by omega), Below.heap_alloc _ _ _ hk]⟩

/-- The eight bytes of v, the greatest first, as cells. -/
def be8 (v : Int) : List Value :=
  [.int .u8 (v / 72057594037927936), .int .u8 (v / 281474976710656 % 256), .int .u8 (v / 1099511627776 % 256), .int .u8 (v / 4294967296 % 256), .int .u8 (v / 16777216 % 256), .int .u8 (v / 65536 % 256), .int .u8 (v / 256 % 256), .int .u8 (v % 256)]
/-- The four bytes of v, the greatest first, as cells. -/
def be4 (v : Int) : List Value := [.int .u8 (v / 16777216), .int .u8 (v / 65536 % 256), .int .u8 (v / 256 % 256), .int .u8 (v % 256)]

set_option maxHeartbeats 4000000 in
set_option maxRecDepth 100000 in
/-- '(bigEndian).AppendUint64' onto a slice that the call owns: beside its own row no old block has turned. -/
theorem f19_any (B n : Nat) (v : Int) (h0 : 0 ≤ v) (h1 : v < 18446744073709551616) (sv : Value) (xs : List Value) (w : World) (hown : w.ownsRow B 5 1 sv n xs) (hBw : B ≤ w.heap.size) (hlim : n + 8 ≤ 140737488355328) :
    Calls Try.prog 19 #[.agg #[], sv, .int .u64 v] w fun e w' => ∃ v', e = .returned v' ∧ w'.ownsRow B 5 1 v' (n + 8) (xs ++ be8 v) ∧ w.grownBy w' sv.ownBlock := by
  obtain ⟨i0, hi, hz0, hz1, hz2⟩ := info_parts info5
  go_enter Try.func19, Try.ntmps19
  go_wp2_with (at_builtin; refine wpList_append_own _ rfl _ _ 22 rfl B 5 i0 (.int .u8 0) 1 1 Try.underlying22 hi hz0 hz1 hz2 rfl (by decide) _ _ _ rfl ((hown.alloc _).alloc _) _ 8 8 (be8 v) rfl rfl ?c1 ?c2 ?c3 ?c4 ?c5 ?_)
  case c1 => exact cells_two_new w _ (be8 v) 5
  case c2 => intro u hu; simp [be8] at hu; rcases hu with rfl | rfl | rfl | rfl | rfl | rfl | rfl | rfl <;> rfl
  case c3 => unfold maxLen; omega
  case c4 => omega
  case c5 => simp; omega
  intro v' w2 hown' hgrow _
  go_wp2
  go_ret
  exact ⟨v', rfl, hown', grown_two hgrow⟩

set_option maxHeartbeats 4000000 in
set_option maxRecDepth 100000 in
/-- '(bigEndian).AppendUint32' onto a slice that the call owns: beside its own row no old block has turned. -/
theorem f20_any (B n : Nat) (v : Int) (h0 : 0 ≤ v) (h1 : v < 4294967296) (sv : Value) (xs : List Value) (w : World) (hown : w.ownsRow B 5 1 sv n xs) (hBw : B ≤ w.heap.size) (hlim : n + 4 ≤ 140737488355328) :
    Calls Try.prog 20 #[.agg #[], sv, .int .u32 v] w fun e w' => ∃ v', e = .returned v' ∧ w'.ownsRow B 5 1 v' (n + 4) (xs ++ be4 v) ∧ w.grownBy w' sv.ownBlock := by
  obtain ⟨i0, hi, hz0, hz1, hz2⟩ := info_parts info5
  go_enter Try.func20, Try.ntmps20
  go_wp2_with (at_builtin; refine wpList_append_own _ rfl _ _ 22 rfl B 5 i0 (.int .u8 0) 1 1 Try.underlying22 hi hz0 hz1 hz2 rfl (by decide) _ _ _ rfl ((hown.alloc _).alloc _) _ 4 4 (be4 v) rfl rfl ?c1 ?c2 ?c3 ?c4 ?c5 ?_)
  case c1 => exact cells_two_new w _ (be4 v) 5
  case c2 => intro u hu; simp [be4] at hu; rcases hu with rfl | rfl | rfl | rfl <;> rfl
  case c3 => unfold maxLen; omega
  case c4 => omega
  case c5 => simp; omega
  intro v' w2 hown' hgrow _
  go_wp2
  go_ret
  exact ⟨v', rfl, hown', grown_two hgrow⟩

end Go.Proofs.Qxb6609125a.Slot
