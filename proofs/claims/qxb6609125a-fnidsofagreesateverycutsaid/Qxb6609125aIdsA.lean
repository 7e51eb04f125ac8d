/-
  'FnIdsOfAgreesAtEveryCut': THE CALLEES' CONTRACTS: the bound on lengths (12), the clone (14), the accepted instructions (13), idsOf (18, 15).
-/
import Derived.Test.Qxb6609125aRows
import Derived.Test.Qxb6609125aKit
import Derived.Deep.QuietTactic
import Derived.BigQuiet
namespace Go.Proofs.Qxb6609125a.Ids
open Go.RowKit Go.Proofs.Qxb6609125a.Kit

/-- A slice of strings in memory, at the address 'a': its elements are 'ss'. Where there is none, nothing is said of the address. -/
def InStrs (w : World) (a : Option Addr) (ss : List ByteArray) : Prop :=
  ∀ i, i < ss.length → ∃ b off, a = some ⟨b, off, none⟩ ∧ w.cell? ⟨b, off + i, none⟩ = some (.string (ss.getD i ByteArray.empty))

/-- It ends by handing back one bool. -/
def RetBool (e : Ending) : Prop := ∃ r, e = .returned (.bool r)
theorem retBool (r : Bool) : RetBool (.returned (.bool r)) := ⟨r, rfl⟩

set_option maxHeartbeats 400000 in
/-- 'zzBytes_FnIdsOfAgreesAtEveryCut': it answers a bool and writes nothing. -/
theorem f12_any (a : Option Addr) (len cap : Nat) (k : Int) (ss : List ByteArray) (w : World) (hn : len ≤ 9223372036854775807) (hl : ss.length = len) (hc : InStrs w a ss) :
    Calls Try.prog 12 #[.slice a len cap, .int .i64 k] w fun e w' => RetBool e ∧ w' = w := by
  have HL : Hid (ss.length = len) := hl
  clear hl
  go_enter Try.func12, Try.ntmps12
  go_wp2
  · go_ret; exact ⟨retBool _, rfl⟩
  · go_loop [5, 6] (fun n i => ∃ (k : Nat) (z : Int), k ≤ len ∧ i = .int .i64 k ∧ n = .int .i64 z) (fun _ i => len - (intOf i).toNat)
    case atStart => exact ⟨0, _, Nat.zero_le _, rfl, rfl⟩
    case round =>
      obtain ⟨k, z, hk, rfl, rfl⟩ := hrel
      by_cases hlt : k < len
      · obtain ⟨b, off, rfl, hcell⟩ := hc k (by have := HL.out; omega)
        generalize ss.getD k ByteArray.empty = s at hcell
        clear hc
        go_wp2
        · go_ret; exact ⟨retBool _, rfl⟩
        · go_ret; exact ⟨retBool _, rfl⟩
        · go_round
          case rel => exact ⟨k + 1, _, by omega, by go_num, rfl⟩
          case measure => simp [intOf]; omega
      · go_wp2
        go_ret; exact ⟨retBool _, rfl⟩


theorem info9 : (Try.prog.info? 9).map (fun i => (i.zero, i.size, i.bytes)) = some (some (.string ByteArray.empty), 1, 16) := by kernel_rfl
theorem size9 : (Try.prog.info? 9).map (·.size) = some 1 := by kernel_rfl

theorem inStrs_kept {w w' : World} {a : Option Addr} {ss : List ByteArray} (h : InStrs w a ss) (hb : Below w.heap.size w w') : InStrs w' a ss := fun i hi => by
  obtain ⟨b, off, ha, hc⟩ := h i hi
  exact ⟨b, off, ha, cell_kept hb (Nat.le_refl _) hc⟩

set_option maxHeartbeats 400000 in
/-- 'zzCloneStrings' at nil. -/
theorem f14_nil (w : World) : Calls Try.prog 14 #[.slice none 0 0] w fun e w' => e = .returned (.slice none 0 0) ∧ w' = w := by
  have hn := fun (w : World) => Lib.run_eql_slice_nil (P := Try.prog) w 32 9 none 0 0 0 0 Try.underlying32
  go_enter Try.func14, Try.ntmps14
  go_wp2
  go_ret
  exact ⟨rfl, rfl⟩

set_option maxHeartbeats 400000 in
theorem f14_some (x : Addr) (len cap : Nat) (ss : List ByteArray) (w : World) (hl : len ≤ 1048576) (hs : ss.length = len) (hc : InStrs w (some x) ss) :
    Calls Try.prog 14 #[.slice (some x) len cap] w fun e w' => ∃ a', e = .returned (.slice a' len len) ∧ InStrs w' a' ss ∧ Below w.heap.size w w' := by
  have hn := fun (w : World) => Lib.run_eql_slice_nil (P := Try.prog) w 32 9 (some x) len cap 0 0 Try.underlying32
  have HS : Hid (ss.length = len) := hs
  clear hs
  go_enter Try.func14, Try.ntmps14
  obtain ⟨cs, hcs⟩ : ∃ cs, cs = ss.map Value.string := ⟨_, rfl⟩
  have HC : Hid (cs = ss.map Value.string) := hcs
  clear hcs
  go_wp2_with (at_make; refine wpList_make_row _ rfl (.tmp 7) (.tmp 7) 32 rfl 9 _ 1 16 Try.underlying32 info9 _ _ _ _ len rfl rfl rfl rfl (by omega) (by omega) ?_)
  intro w1 hrow hb hz
  go_wp2_with (refine wpList_copy_splice rfl (.tmp 9) (.tmp 10) 32 32 rfl 9 Try.underlying32 size9 _ _ _ _ _ _ rfl rfl w.heap.size 0 (madeCells (Value.string ByteArray.empty).cells (len * 1)).toList 9 ?c1 cs ?c2 ?c3 ?c4 ?c5 w.heap.size w hb (Nat.le_refl _) ?_)
  case c1 => simpa [Value.cells] using hrow.out
  case c2 => rw [HC.out, List.length_map, HS.out]; exact (Nat.min_self len).symm
  case c3 =>
    intro _ j v hv
    rw [HC.out] at hv
    have hj : j < ss.length := by
      have := (List.getElem?_eq_some_iff.1 hv).1
      simpa using this
    obtain ⟨b, off, hx, hcell⟩ := hc j hj
    obtain rfl := Option.some.inj hx
    rw [Addr.add_mid, cell_kept hb (Nat.le_refl _) hcell, ← hv]
    simp [hj]
  case c4 => simp only [Array.length_toList, size_madeCells]; rw [HC.out, List.length_map, HS.out]; omega
  case c5 => intro v hv; rw [HC.out] at hv; obtain ⟨_, _, rfl⟩ := List.mem_map.1 hv; rfl
  intro w2 hrow2 hb2
  go_wp2
  go_ret
  refine ⟨_, rfl, fun i hi => ⟨w.heap.size, 0, rfl, ?_⟩, hb2⟩
  rw [cell_of_row _ _ _ _ _ _ hrow2.out, HC.out]
  have e : splice (madeCells #[Value.string ByteArray.empty] len).toList 0 (ss.map Value.string) = ss.map Value.string := by
    have := HS.out
    simp [splice, size_madeCells, this]
  rw [e]
  simp [hi]

/-- 'zzCloneStrings': a fresh copy; nil stays nil. -/
theorem f14_any (a : Option Addr) (len cap : Nat) (ss : List ByteArray) (w : World) (hl : len ≤ 1048576) (hs : ss.length = len) (h0 : a = none → cap = 0) (hc : InStrs w a ss) :
    Calls Try.prog 14 #[.slice a len cap] w fun e w' => ∃ a', e = .returned (.slice a' len len) ∧ InStrs w' a' ss ∧ Below w.heap.size w w' := by
  cases a with
  | some x => exact f14_some x len cap ss w hl hs hc
  | none =>
    have hcap := h0 rfl
    have hlen : len = 0 := by
      by_cases h : 0 < ss.length
      · obtain ⟨b, off, h, _⟩ := hc 0 h; simp at h
      · omega
    subst hcap hlen
    refine (f14_nil w).mono ?_
    rintro e w' ⟨rfl, rfl⟩
    exact ⟨none, rfl, hc, Below.refl _ _⟩

/-- The twenty cells of one 'accepted' whose ID is 's' and whose other fields are zero. -/
def accCells (s : ByteArray) : List Value :=
  [.string s, .string ByteArray.empty, .string ByteArray.empty, .int .u64 0, .int .i64 0, .pointer none, .pointer none, .int .i32 0, .pointer none, .int .i32 0, .int .u64 0, .int .i64 0, .pointer none, .int .u64 0, .int .i64 0, .pointer none, .slice none 0 0, .int .u64 0, .int .i64 0, .pointer none]
theorem info53 : (Try.prog.info? 53).map (fun i => (i.zero, i.size, i.bytes)) = some (some (.agg (accCells ByteArray.empty).toArray), 20, 200) := by kernel_rfl

/-- 'l i' is the ID of the i-th of 'n' elements, from block g's head on. -/
def AccAt (w : World) (g n : Nat) (l : Nat → ByteArray) : Prop := (∀ i, i < n → w.rangeAt g (i * 20) (accCells (l i))) ∧ ∀ o, w.frozen? ⟨g, o, none⟩ = false

theorem accAt_made {w : World} {g n : Nat} (h : w.heap[g]? = some (.cells (madeCells (accCells ByteArray.empty).toArray (n * 20)) 53 (0, 0))) : AccAt w g n (fun _ => ByteArray.empty) := by
  refine ⟨fun i hi j v hv => ?_, fun o => frozen_of_row _ _ _ _ _ h⟩
  have hj : j < 20 := (List.getElem?_eq_some_iff.1 hv).1
  rw [cell_of_row _ _ _ _ _ _ h, ← hv]
  have h1 : i * 20 + j < n * 20 := by omega
  have h2 : (i * 20 + j) % 20 = j := by omega
  have e : (accCells ByteArray.empty).toArray.size = 20 := rfl
  have e' : (accCells ByteArray.empty).length = 20 := rfl
  simp [madeCells, h1, e', h2, hj]

theorem accAt_store {w : World} {g n : Nat} {l : Nat → ByteArray} (h : AccAt w g n l) (j : Nat) (hj : j < n) (s : ByteArray) :
    AccAt (w.setCell ⟨g, j * 20, none⟩ (.string s)) g n (fun i => if i = j then s else l i) := by
  refine ⟨fun i hi r v hv => ?_, fun o => ?_⟩
  · have hr : r < 20 := (List.getElem?_eq_some_iff.1 hv).1
    by_cases e : i = j ∧ r = 0
    · obtain ⟨rfl, rfl⟩ := e
      have h0 := h.1 i hi 0 (.string (l i)) rfl
      rw [Nat.add_zero] at h0 ⊢
      rw [World.cell?_setCell_same _ _ _ h0]
      simpa [accCells] using hv
    · have hne : (⟨g, j * 20, none⟩ : Addr) ≠ ⟨g, i * 20 + r, none⟩ := by
        intro h'
        simp only [Addr.mk.injEq, and_true, true_and] at h'
        omega
      rw [World.cell?_setCell_other _ _ _ _ hne]
      by_cases ei : i = j
      · subst ei
        have hr0 : r ≠ 0 := fun h0 => e ⟨rfl, h0⟩
        simp only [if_true] at hv
        refine h.1 i hi r v ?_
        rw [← hv]
        obtain ⟨r', rfl⟩ : ∃ r', r = r' + 1 := ⟨r - 1, by omega⟩
        simp [accCells]
      · simp only [if_neg ei] at hv
        exact h.1 i hi r v hv
  · rw [World.frozen?_setCell]; exact h.2 o

theorem accAt_congr {w : World} {g n : Nat} {l l' : Nat → ByteArray} (h : AccAt w g n l) (e : ∀ i, i < n → l i = l' i) : AccAt w g n l' := ⟨fun i hi => by rw [← e i hi]; exact h.1 i hi, h.2⟩

set_option maxHeartbeats 400000 in
/-- 'ZZacceptedOf': one accepted instruction for each id. -/
theorem f13_any (a : Option Addr) (len cap : Nat) (ss : List ByteArray) (w : World) (hl : len ≤ 1048576) (hs : ss.length = len) (hc : InStrs w a ss) :
    Calls Try.prog 13 #[.slice a len cap] w fun e w' => e = .returned (.slice (some ⟨w.heap.size, 0, none⟩) len len) ∧ AccAt w' w.heap.size len (fun i => ss.getD i ByteArray.empty) ∧ w.heap.size < w'.heap.size ∧ Below w.heap.size w w' := by
  have HS : Hid (ss.length = len) := hs
  clear hs
  go_enter Try.func13, Try.ntmps13
  go_wp2_with (at_make; refine wpList_make_row _ rfl (.tmp 6) (.tmp 6) 34 rfl 53 _ 20 200 Try.underlying34 info53 _ _ _ _ len rfl rfl rfl rfl (by omega) (by omega) ?_)
  intro w1 hrow hb hz
  have HA : Hid (AccAt w1 w.heap.size len (fun _ => ByteArray.empty)) := accAt_made (by simpa [Value.cells] using hrow.out)
  clear hrow
  go_wp2
  go_loopw [4] (fun i wr => ∃ k : Nat, k ≤ len ∧ i = .int .i64 k ∧ Hid (AccAt wr w.heap.size len (fun i => if i < k then ss.getD i ByteArray.empty else ByteArray.empty)) ∧ w.heap.size < wr.heap.size ∧ Below w.heap.size w wr) (fun i _ => len - (intOf i).toNat)
  case atStart => exact ⟨0, Nat.zero_le _, rfl, accAt_congr HA.out (fun i hi => by simp), by omega, hb⟩
  case round =>
    obtain ⟨k, hk, rfl, hA, hsz, hbr⟩ := hrel
    clear HA hb hz
    by_cases hlt : k < len
    · obtain ⟨b, off, rfl, hcell⟩ := hc k (by have := HS.out; omega)
      have hcell' := cell_kept hbr (Nat.le_refl _) hcell
      have hold : wr.cell? ⟨w.heap.size, k * 20, none⟩ = some (.string ByteArray.empty) := by
        have := hA.out.1 k hlt 0 (.string (if k < k then ss.getD k ByteArray.empty else ByteArray.empty)) rfl
        simpa using this
      have hfz : wr.frozen? ⟨w.heap.size, k * 20, none⟩ = false := hA.out.2 _
      clear hc hcell
      obtain ⟨s, hs⟩ : ∃ s, s = ss.getD k ByteArray.empty := ⟨_, rfl⟩
      rw [← hs] at hcell'
      have HSS : Hid (s = ss.getD k ByteArray.empty) := hs
      clear hs
      go_wp2
      go_roundw
      case rel => exact ⟨k + 1, by omega, by go_num, accAt_congr (accAt_store hA.out k hlt s) (fun i hi => by rw [HSS.out]; by_cases e : i = k <;> simp [e] <;> by_cases e2 : i < k <;> simp [e2] <;> omega), by simpa using hsz, hbr.setCell (Nat.le_refl _) _⟩
      case measure => simp [intOf]; omega
    · go_wp2
      go_ret
      exact ⟨rfl, accAt_congr hA.out (fun i hi => by rw [if_pos (by omega)]), hsz, hbr⟩

/-- A slice of accepted instructions in memory, at the address 'a': their IDs are 'ss'. -/
def InAcc (w : World) (a : Option Addr) (ss : List ByteArray) : Prop :=
  ∀ i, i < ss.length → ∃ b off, a = some ⟨b, off, none⟩ ∧ w.rangeAt b (off + i * 20) (accCells (ss.getD i ByteArray.empty))

/-- The first k cells of the row at g hold the strings; all n are there and may be written. -/
def StrRow (w : World) (g n k : Nat) (ss : List ByteArray) : Prop :=
  (∀ i, i < k → w.cell? ⟨g, i, none⟩ = some (.string (ss.getD i ByteArray.empty))) ∧ (∀ i, i < n → ∃ s, w.cell? ⟨g, i, none⟩ = some (.string s)) ∧ ∀ o, w.frozen? ⟨g, o, none⟩ = false

theorem strRow_made {w : World} {g n : Nat} {ss : List ByteArray} (h : w.heap[g]? = some (.cells (madeCells #[.string ByteArray.empty] n) 9 (0, 0))) : StrRow w g n 0 ss := by
  refine ⟨fun i hi => absurd hi (Nat.not_lt_zero _), fun i hi => ⟨ByteArray.empty, ?_⟩, fun o => frozen_of_row _ _ _ _ _ h⟩
  rw [cell_of_row _ _ _ _ _ _ h]
  simp [madeCells, hi, Nat.mod_one]

theorem strRow_kept {w w' : World} {g n k : Nat} {ss : List ByteArray} (h : StrRow w g n k ss) (hg : g < w.heap.size) (hb : Below w.heap.size w w') : StrRow w' g n k ss :=
  ⟨fun i hi => by rw [hb.cell (p := ⟨g, i, none⟩) hg]; exact h.1 i hi, fun i hi => by rw [hb.cell (p := ⟨g, i, none⟩) hg]; exact h.2.1 i hi, fun o => by rw [hb.frozen (p := ⟨g, o, none⟩) hg]; exact h.2.2 o⟩

theorem strRow_store {w : World} {g n k : Nat} {ss : List ByteArray} (h : StrRow w g n k ss) (hk : k < n) : StrRow (w.setCell ⟨g, k, none⟩ (.string (ss.getD k ByteArray.empty))) g n (k + 1) ss := by
  have key : ∀ i, i ≠ k → (w.setCell ⟨g, k, none⟩ (.string (ss.getD k ByteArray.empty))).cell? ⟨g, i, none⟩ = w.cell? ⟨g, i, none⟩ := fun i hi =>
    World.cell?_setCell_other _ _ _ _ (fun e => by simp only [Addr.mk.injEq, and_true, true_and] at e; exact hi e.symm)
  obtain ⟨s0, h0⟩ := h.2.1 k hk
  have same := World.cell?_setCell_same w ⟨g, k, none⟩ (.string (ss.getD k ByteArray.empty)) h0
  refine ⟨fun i hi => ?_, fun i hi => ?_, fun o => by rw [World.frozen?_setCell]; exact h.2.2 o⟩
  · by_cases e : i = k
    · subst e; exact same
    · rw [key i e]; exact h.1 i (by omega)
  · by_cases e : i = k
    · subst e; exact ⟨_, same⟩
    · rw [key i e]; exact h.2.1 i hi

theorem acc_one (s : ByteArray) : (accCells s).toArray.all (·.oneCell') = true := by simp [accCells, Value.oneCell']

set_option maxHeartbeats 400000 in
/-- 'idsOf': the ids, in their order, in a new array. -/
theorem f18_any (a : Option Addr) (len cap : Nat) (ss : List ByteArray) (w : World) (hl : len ≤ 1048576) (hs : ss.length = len) (hc : InAcc w a ss) :
    Calls Try.prog 18 #[.slice a len cap] w fun e w' => e = .returned (.slice (some ⟨w.heap.size, 0, none⟩) len len) ∧ StrRow w' w.heap.size len len ss ∧ w.heap.size < w'.heap.size ∧ Below w.heap.size w w' := by
  have HS : Hid (ss.length = len) := hs
  clear hs
  go_enter Try.func18, Try.ntmps18
  go_wp2_with (at_make; refine wpList_make_row _ rfl (.tmp 7) (.tmp 7) 32 rfl 9 _ 1 16 Try.underlying32 info9 _ _ _ _ len rfl rfl rfl rfl (by omega) (by omega) ?_)
  intro w1 hrow hb hz
  have HA : Hid (StrRow w1 w.heap.size len 0 ss) := strRow_made (by simpa [Value.cells] using hrow.out)
  clear hrow
  go_wp2
  go_loopw [4, 5, 11] (fun _ _ i wr => ∃ k : Nat, k ≤ len ∧ i = .int .i64 k ∧ Hid (StrRow wr w.heap.size len k ss) ∧ w.heap.size < wr.heap.size ∧ Below w.heap.size w wr) (fun _ _ i _ => len - (intOf i).toNat)
  case atStart => exact ⟨0, Nat.zero_le _, rfl, HA.out, by omega, hb⟩
  case round =>
    obtain ⟨k, hk, rfl, hA, hsz, hbr⟩ := hrel
    clear HA hb hz
    by_cases hlt : k < len
    · obtain ⟨b, off, rfl, hcell⟩ := hc k (by have := HS.out; omega)
      have hr : wr.rangeAt b (off + k * 20) (accCells (ss.getD k ByteArray.empty)) := fun j v hv => cell_kept hbr (Nat.le_refl _) (hcell j v hv)
      obtain ⟨s0, hold⟩ := hA.out.2.1 k hlt
      have hfz : wr.frozen? ⟨w.heap.size, k, none⟩ = false := hA.out.2.2 _
      clear hc hcell
      obtain ⟨s, hs⟩ : ∃ s, s = ss.getD k ByteArray.empty := ⟨_, rfl⟩
      rw [← hs] at hr
      have HSS : Hid (s = ss.getD k ByteArray.empty) := hs
      clear hs
      go_wp2_with (first
        | (refine wpList_load_mid rfl 53 (.tmp 14) rfl b (off + k * 20) rfl (accCells s) _ hr Try.underlying53 rfl (by kernel_rfl) ?_)
        | (refine wpList_store_abs rfl 53 (.tmp 5) (.tmp 15) rfl wr.heap.size 0 (accCells s) rfl rfl ?ht (by kernel_rfl) (acc_one s) ?_))
      case ht => exact there_new wr _ 53 20 (Nat.le_refl 20)
      intro w2 hr2 hb2 hz2
      have h0 : w2.cell? ⟨wr.heap.size, 0, none⟩ = some (.string s) := hr2 0 _ rfl
      have hb3 : Below wr.heap.size wr w2 := ((Below.refl _ _).alloc (Nat.le_refl _) _).trans hb2
      have hold2 : w2.cell? ⟨w.heap.size, k, none⟩ = some (.string s0) := cell_kept hb3 (Nat.le_refl _) hold
      have hfz2 : w2.frozen? ⟨w.heap.size, k, none⟩ = false := by rw [hb3.frozen (p := ⟨w.heap.size, k, none⟩) hsz]; exact hfz
      have hsz2 : w.heap.size < w2.heap.size := by have := hb3.size; omega
      clear hr2 hb2 hz2 hr hold hfz
      go_wp2
      go_roundw
      case rel => exact ⟨k + 1, by omega, by go_num, by have h := strRow_store (strRow_kept hA.out hsz hb3) hlt; rw [← HSS.out] at h; exact h, by simpa using hsz2, (hbr.trans (hb3.mono (by omega))).setCell (Nat.le_refl _) _⟩
      case measure => simp [intOf]; omega
    · go_wp2
      go_ret
      obtain rfl : k = len := by omega
      exact ⟨rfl, hA.out, hsz, hbr⟩

/-- 'ZZidsOf'. -/
theorem f15_any (a : Option Addr) (len cap : Nat) (ss : List ByteArray) (w : World) (hl : len ≤ 1048576) (hs : ss.length = len) (hc : InAcc w a ss) :
    Calls Try.prog 15 #[.slice a len cap] w fun e w' => e = .returned (.slice (some ⟨w.heap.size, 0, none⟩) len len) ∧ StrRow w' w.heap.size len len ss ∧ w.heap.size < w'.heap.size ∧ Below w.heap.size w w' := by
  have HS : Hid (ss.length = len) := hs
  clear hs
  go_enter Try.func15, Try.ntmps15
  go_wp2_with fail
  refine (f18_any a len cap ss _ hl HS.out hc).mono ?_
  rintro e w' ⟨rfl, h1, h2, h3⟩
  go_wp2
  go_ret
  exact ⟨rfl, h1, h2, h3⟩
