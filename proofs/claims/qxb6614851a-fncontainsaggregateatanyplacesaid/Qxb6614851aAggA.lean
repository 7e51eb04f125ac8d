/-
  'FnContainsAggregate..': WHAT A NODE IS IN MEMORY, and the walks of nodeBytes (6), isAggName (11), isAggregate (26), walked (20).
-/
import Derived.Test.Qxb6614851aRows
import Derived.Test.Qxb6614851aKit
import Derived.Deep.QuietTactic
import Derived.BigQuiet
namespace Go.Proofs.Qxb6614851a.Agg
open Go.RowKit Go.Proofs.Qxb6614851a.Kit

def sumTo : Nat → (Nat → Nat) → Nat
  | 0, _ => 0
  | n + 1, f => sumTo n f + f n
def anyTo : Nat → (Nat → Bool) → Bool
  | 0, _ => false
  | n + 1, f => anyTo n f || f n

/-- 'count', 'sum', 'min' or 'max'. -/
def aggName (s : ByteArray) : Bool := s.toList == [99, 111, 117, 110, 116] || s.toList == [115, 117, 109] || s.toList == [109, 105, 110] || s.toList == [109, 97, 120]
/-- Kid i is a subexpression that a node of kind k evaluates. -/
def walkedK (k : Int) (i : Nat) : Bool := k == 1 || ((k == 2 || k == 4) && i == 0) || (k == 3 && decide (i ≤ 1))
/-- A node of kind k, name s and 'len' kids, whose answers are 'hs', holds an aggregate. -/
def hasOf (k : Int) (s : ByteArray) (len : Nat) (hs : Nat → Bool) : Bool := (k == 1 && aggName s) || anyTo len (fun i => walkedK k i && hs i)

/-- In the world w the value v is a node of depth at most n, whose memory lies in blocks that are 'ok'; 'h': some subexpression that it evaluates is a call of an aggregate; 'sz': its size as nodeBytes counts it. -/
def NodeIn (ok : Nat → Prop) : Nat → World → Value → Bool → Nat → Prop
  | 0, _, _, _, _ => False
  | n + 1, w, v, h, sz => ∃ (k : Int) (s : ByteArray) (a : Option Addr) (len cap : Nat) (hs : Nat → Bool) (szs : Nat → Nat),
      v = .agg #[.int .u8 k, .string s, .slice a len cap] ∧ len ≤ 9223372036854775807 ∧
      (∀ i, i < len → ∃ b off c0 c1 c2, a = some ⟨b, off, none⟩ ∧ ok b ∧ w.rangeAt b (off + i * 3) [c0, c1, c2] ∧ NodeIn ok n w (.agg #[c0, c1, c2]) (hs i) (szs i)) ∧
      h = hasOf k s len hs ∧ sz = 40 + s.size + sumTo len szs

theorem range_block {w : World} {b o : Nat} {c0 c1 c2 : Value} (h : w.rangeAt b o [c0, c1, c2]) : b < w.heap.size := block_lt_of_cell (h 0 c0 rfl)

/-- A node stays where no block of its own has turned. -/
theorem nodeIn_keep {ok : Nat → Prop} : ∀ (n : Nat) {w w' : World} {v : Value} {h : Bool} {sz : Nat}, NodeIn ok n w v h sz → (∀ b, ok b → b < w.heap.size → w'.heap[b]? = w.heap[b]?) → NodeIn ok n w' v h sz
  | 0, _, _, _, _, _, hn, _ => hn.elim
  | n + 1, w, w', v, h, sz, hn, hb => by
    obtain ⟨k, s, a, len, cap, hs, szs, hv, hl, hk, hh, hsz⟩ := hn
    refine ⟨k, s, a, len, cap, hs, szs, hv, hl, fun i hi => ?_, hh, hsz⟩
    obtain ⟨b, off, c0, c1, c2, ha, hok, hr, hkid⟩ := hk i hi
    refine ⟨b, off, c0, c1, c2, ha, hok, fun j u hu => ?_, nodeIn_keep n hkid hb⟩
    rw [World.cell?_of_block (a := ⟨b, _, none⟩) (hb b hok (range_block hr))]
    exact hr j u hu

theorem nodeIn_kept {ok : Nat → Prop} (n : Nat) {w w' : World} {v : Value} {h : Bool} {sz : Nat} (hn : NodeIn ok n w v h sz) (hb : Below w.heap.size w w') : NodeIn ok n w' v h sz :=
  nodeIn_keep n hn (fun b _ hl => hb.block b hl)

/-- Other words for the blocks. -/
theorem nodeIn_mono {ok ok' : Nat → Prop} : ∀ (n : Nat) {w : World} {v : Value} {h : Bool} {sz : Nat}, NodeIn ok n w v h sz → (∀ b, ok b → b < w.heap.size → ok' b) → NodeIn ok' n w v h sz
  | 0, _, _, _, _, hn, _ => hn.elim
  | n + 1, w, v, h, sz, hn, hb => by
    obtain ⟨k, s, a, len, cap, hs, szs, hv, hl, hk, hh, hsz⟩ := hn
    refine ⟨k, s, a, len, cap, hs, szs, hv, hl, fun i hi => ?_, hh, hsz⟩
    obtain ⟨b, off, c0, c1, c2, ha, hok, hr, hkid⟩ := hk i hi
    exact ⟨b, off, c0, c1, c2, ha, hb b hok (range_block hr), hr, nodeIn_mono n hkid hb⟩

/-- A deeper bound. -/
theorem nodeIn_succ {ok : Nat → Prop} : ∀ (n : Nat) {w : World} {v : Value} {h : Bool} {sz : Nat}, NodeIn ok n w v h sz → NodeIn ok (n + 1) w v h sz
  | 0, _, _, _, _, hn => hn.elim
  | n + 1, w, v, h, sz, hn => by
    obtain ⟨k, s, a, len, cap, hs, szs, hv, hl, hk, hh, hsz⟩ := hn
    refine ⟨k, s, a, len, cap, hs, szs, hv, hl, fun i hi => ?_, hh, hsz⟩
    obtain ⟨b, off, c0, c1, c2, ha, hok, hr, hkid⟩ := hk i hi
    exact ⟨b, off, c0, c1, c2, ha, hok, hr, nodeIn_succ n hkid⟩
theorem nodeIn_le {ok : Nat → Prop} {n m : Nat} (hnm : n ≤ m) {w : World} {v : Value} {h : Bool} {sz : Nat} (hn : NodeIn ok n w v h sz) : NodeIn ok m w v h sz := by
  induction hnm with
  | refl => exact hn
  | step _ ih => exact nodeIn_succ _ ih

theorem range_kept {w w' : World} {b o : Nat} {cs : List Value} (h : w.rangeAt b o cs) (hb : Below w.heap.size w w') : w'.rangeAt b o cs := fun j v hv => cell_kept hb (Nat.le_refl _) (h j v hv)

/-- Sizes: each kid's is at most the whole; as many kids as fit. -/
theorem sumTo_le {f : Nat → Nat} : ∀ {n i : Nat}, i < n → f i ≤ sumTo n f
  | n + 1, i, h => by
    rw [sumTo]
    by_cases e : i = n
    · subst e; omega
    · have := sumTo_le (f := f) (n := n) (i := i) (by omega); omega
theorem nodeIn_size {ok : Nat → Prop} : ∀ {n : Nat} {w : World} {v : Value} {h : Bool} {sz : Nat}, NodeIn ok n w v h sz → 40 ≤ sz
  | 0, _, _, _, _, hn => hn.elim
  | n + 1, w, v, h, sz, hn => by
    obtain ⟨k, s, a, len, cap, hs, szs, hv, hl, hk, hh, hsz⟩ := hn
    omega
theorem sumTo_ge {f : Nat → Nat} : ∀ {n : Nat}, (∀ i, i < n → 40 ≤ f i) → 40 * n ≤ sumTo n f
  | 0, _ => by simp [sumTo]
  | n + 1, h => by
    have := sumTo_ge (f := f) (n := n) (fun i hi => h i (by omega))
    have := h n (by omega)
    rw [sumTo]; omega

theorem cells3 {w : World} {b o : Nat} {c0 c1 c2 : Value} (h : w.rangeAt b o [c0, c1, c2]) : w.cell? ⟨b, o, none⟩ = some c0 ∧ w.cell? ⟨b, o + 1, none⟩ = some c1 ∧ w.cell? ⟨b, o + 2, none⟩ = some c2 :=
  ⟨h 0 c0 rfl, h 1 c1 rfl, h 2 c2 rfl⟩

set_option maxHeartbeats 400000 in
/-- 'nodeBytes': beyond the bound something beyond the bound; else the size on top of 'acc'. -/
theorem f6_any {ok : Nat → Prop} (n : Nat) : ∀ (v : Value) (h : Bool) (sz : Nat) (acc : Int) (w : World), NodeIn ok n w v h sz → 0 ≤ acc →
    Calls Try.prog 6 #[v, .int .i64 acc] w fun e w' => ∃ r : Int, e = .returned (.int .i64 r) ∧ (r ≤ 1048576 → r = acc + sz) ∧ Below w.heap.size w w' := by
  induction n with
  | zero => intro v h sz acc w hn; exact hn.elim
  | succ n ih =>
    have IH := hide ih
    clear ih
    intro v h sz acc w hn h0
    obtain ⟨k, s, a, len, cap, hs, szs, rfl, hl, hk, hh, hsz⟩ := hn
    have HK := hide hk
    have HSZ := hide hsz
    clear hk hh hsz
    by_cases hbig : 1048576 < acc
    · go_enter Try.func6, Try.ntmps6
      go_wp2_with fail
      go_ret
      exact ⟨_, rfl, (fun h => by omega), (Below.refl _ _).alloc (Nat.le_refl _) _⟩
    by_cases hs1 : 1048576 < s.size
    · go_enter Try.func6, Try.ntmps6
      go_wp2_with fail
      go_ret
      exact ⟨_, rfl, (fun h => by omega), (Below.refl _ _).alloc (Nat.le_refl _) _⟩
    by_cases hs2 : 1048576 < acc + 40 + s.size
    · go_enter Try.func6, Try.ntmps6
      go_wp2_with fail
      go_ret
      exact ⟨_, rfl, (fun h => by omega), (Below.refl _ _).alloc (Nat.le_refl _) _⟩
    go_enter Try.func6, Try.ntmps6
    go_wp2_with fail
    obtain ⟨W0, hW0⟩ : ∃ W0, W0 = w.alloc (.cells #[.int .u8 k, .string s, .slice a len cap] 24) := ⟨_, rfl⟩
    rw [← hW0]
    have hB0 : Below w.heap.size w W0 := by rw [hW0]; exact (Below.refl _ _).alloc (Nat.le_refl _) _
    have hbx : Hid (W0.heap[w.heap.size]? = some (.cells #[.int .u8 k, .string s, .slice a len cap] 24 (0, 0))) := by rw [hW0]; exact heap_alloc_new w _
    have hz0 : W0.heap.size = w.heap.size + 1 := by rw [hW0]; exact size_new w _
    clear hW0
    go_loopw [1, 5] (fun ac i wr => ∃ (j : Nat) (A : Int), j ≤ len ∧ i = .int .i64 j ∧ ac = .int .i64 A ∧ A ≤ 1048576 ∧ 0 ≤ A ∧ Hid (A = acc + (40 + s.size + sumTo j szs : Nat)) ∧ Below W0.heap.size W0 wr) (fun _ i _ => len - (intOf i).toNat)
    case atStart => exact ⟨0, _, Nat.zero_le _, rfl, rfl, by omega, by omega, by show _ = _; simp [sumTo], Below.refl _ _⟩
    case round =>
      obtain ⟨j, A, hj, rfl, rfl, hA1, hA0, HA, hbr⟩ := hrel
      have c2 : wr.cell? ⟨w.heap.size, 2, none⟩ = some (.slice a len cap) := by
        rw [hbr.cell (p := ⟨w.heap.size, 2, none⟩) (by show w.heap.size < _; omega), cell_of_row _ _ _ _ _ _ hbx.out]; rfl
      by_cases hlt : j < len
      · obtain ⟨b, off, x0, x1, x2, rfl, _, hr, hkid⟩ := HK.out j hlt
        have hbw : Below w.heap.size w wr := hB0.trans (hbr.mono hB0.size)
        obtain ⟨e0, e1, e2⟩ := cells3 (range_kept hr hbw)
        have HKID := hide (nodeIn_kept n hkid hbw)
        clear hr hkid
        go_wp2_with fail
        refine (IH.out _ _ _ A _ HKID.out hA0).mono ?_
        rintro e w1 ⟨r, rfl, hr, hb1⟩
        have HR := hide hr
        clear hr e0 e1 e2 c2
        by_cases hr1 : 1048576 < r
        · go_wp2_with fail
          go_ret
          exact ⟨_, rfl, (fun h => by omega), hbw.trans (hb1.mono hbw.size)⟩
        · have hb2 : Below W0.heap.size W0 w1 := hbr.trans (hb1.mono hbr.size)
          have hr2 : r = A + szs j := HR.out (by omega)
          have HR2 := hide hr2
          clear hr2 hb1 HR
          go_wp2_with fail
          go_roundw
          case rel => exact ⟨j + 1, r, by omega, by go_num, rfl, by omega, by have := HR2.out; omega, by show _ = _; rw [HR2.out, HA.out, sumTo]; omega, hb2⟩
          case measure => simp [intOf]; omega
      · go_wp2_with fail
        go_ret
        refine ⟨A, rfl, (fun _ => ?_), hB0.trans (hbr.mono hB0.size)⟩
        have hjl : j = len := by omega
        rw [HA.out, HSZ.out, hjl]

set_option maxHeartbeats 400000 in
/-- 'isAggName'. -/
theorem f11_any (s : ByteArray) (w : World) : Calls Try.prog 11 #[.string s] w fun e w' => e = .returned (.bool (aggName s)) ∧ w' = w := by
  cases h1 : (s.toList == [99, 111, 117, 110, 116])
  · cases h2 : (s.toList == [115, 117, 109])
    · cases h3 : (s.toList == [109, 105, 110])
      · have hq : aggName s = (s.toList == [109, 97, 120]) := by simp only [aggName, h1, h2, h3, Bool.false_or]
        rw [hq]
        clear hq
        go_enter Try.func11, Try.ntmps11
        go_wp2_with fail
        go_ret
        exact ⟨rfl, rfl⟩
      · have hq : aggName s = true := by simp only [aggName, h1, h2, h3, Bool.false_or, Bool.true_or]
        rw [hq]
        clear hq
        go_enter Try.func11, Try.ntmps11
        go_wp2_with fail
        go_ret
        exact ⟨rfl, rfl⟩
    · have hq : aggName s = true := by simp only [aggName, h1, h2, Bool.false_or, Bool.true_or]
      rw [hq]
      clear hq
      go_enter Try.func11, Try.ntmps11
      go_wp2_with fail
      go_ret
      exact ⟨rfl, rfl⟩
  · have hq : aggName s = true := by simp only [aggName, h1, Bool.true_or]
    rw [hq]
    clear hq
    go_enter Try.func11, Try.ntmps11
    go_wp2_with fail
    go_ret
    exact ⟨rfl, rfl⟩

set_option maxHeartbeats 400000 in
/-- 'isAggregate'. -/
theorem f26_any (s : ByteArray) (w : World) : Calls Try.prog 26 #[.string s] w fun e w' => e = .returned (.bool (aggName s)) ∧ w' = w := by
  cases h1 : (s.toList == [99, 111, 117, 110, 116])
  · cases h2 : (s.toList == [115, 117, 109])
    · cases h3 : (s.toList == [109, 105, 110])
      · have hq : aggName s = (s.toList == [109, 97, 120]) := by simp only [aggName, h1, h2, h3, Bool.false_or]
        rw [hq]
        clear hq
        go_enter Try.func26, Try.ntmps26
        go_wp2_with fail
        go_ret
        exact ⟨rfl, rfl⟩
      · have hq : aggName s = true := by simp only [aggName, h1, h2, h3, Bool.false_or, Bool.true_or]
        rw [hq]
        clear hq
        go_enter Try.func26, Try.ntmps26
        go_wp2_with fail
        go_ret
        exact ⟨rfl, rfl⟩
    · have hq : aggName s = true := by simp only [aggName, h1, h2, Bool.false_or, Bool.true_or]
      rw [hq]
      clear hq
      go_enter Try.func26, Try.ntmps26
      go_wp2_with fail
      go_ret
      exact ⟨rfl, rfl⟩
  · have hq : aggName s = true := by simp only [aggName, h1, Bool.true_or]
    rw [hq]
    clear hq
    go_enter Try.func26, Try.ntmps26
    go_wp2_with fail
    go_ret
    exact ⟨rfl, rfl⟩

/-- 'walked', as a Bool: kid i is there, and a node of kind k evaluates it. -/
def walkedI (k : Int) (len : Nat) (i : Int) : Bool := decide (0 ≤ i) && decide (i < len) && walkedK k i.toNat

set_option maxHeartbeats 1000000 in
/-- 'walked'. -/
theorem f20_any (k : Int) (s : ByteArray) (a : Option Addr) (len cap : Nat) (i : Int) (w : World) :
    Calls Try.prog 20 #[.agg #[.int .u8 k, .string s, .slice a len cap], .int .i64 i] w fun e w' => e = .returned (.bool (walkedI k len i)) ∧ Below w.heap.size w w' := by
  by_cases h0 : i < 0
  · have hq : walkedI k len i = false := by simp [walkedI]; omega
    rw [hq]
    clear hq
    go_enter Try.func20, Try.ntmps20
    go_wp2_with fail
    go_ret
    exact ⟨rfl, (Below.refl _ _).alloc (Nat.le_refl _) _⟩
  by_cases hl : (len : Int) ≤ i
  · have hq : walkedI k len i = false := by simp [walkedI]; omega
    rw [hq]
    clear hq
    go_enter Try.func20, Try.ntmps20
    go_wp2_with fail
    go_ret
    exact ⟨rfl, (Below.refl _ _).alloc (Nat.le_refl _) _⟩
  have hw : walkedI k len i = walkedK k i.toNat := by simp [walkedI]; omega
  rw [hw]
  clear hw
  by_cases k1 : k = 1
  · subst k1
    go_enter Try.func20, Try.ntmps20
    go_wp2_with fail
    go_ret
    exact ⟨rfl, (Below.refl _ _).alloc (Nat.le_refl _) _⟩
  have q1 : (k == 1) = false := by simpa using k1
  by_cases k2 : k = 2
  · subst k2
    have hq : walkedK 2 i.toNat = (i == 0) := by simp [walkedK]; rw [Bool.eq_iff_iff]; simp; omega
    rw [hq]
    clear hq k1 q1
    go_enter Try.func20, Try.ntmps20
    go_wp2_with fail
    go_ret
    exact ⟨rfl, (Below.refl _ _).alloc (Nat.le_refl _) _⟩
  have q2 : (k == 2) = false := by simpa using k2
  by_cases k4 : k = 4
  · subst k4
    have hq : walkedK 4 i.toNat = (i == 0) := by simp [walkedK]; rw [Bool.eq_iff_iff]; simp; omega
    rw [hq]
    clear hq k1 q1 k2 q2
    go_enter Try.func20, Try.ntmps20
    go_wp2_with fail
    go_ret
    exact ⟨rfl, (Below.refl _ _).alloc (Nat.le_refl _) _⟩
  have q4 : (k == 4) = false := by simpa using k4
  by_cases k3 : k = 3
  · subst k3
    have hq : walkedK 3 i.toNat = decide (i ≤ 1) := by simp [walkedK]
    rw [hq]
    clear hq k1 q1 k2 q2 k4 q4
    go_enter Try.func20, Try.ntmps20
    go_wp2_with fail
    go_ret
    exact ⟨rfl, (Below.refl _ _).alloc (Nat.le_refl _) _⟩
  have q3 : (k == 3) = false := by simpa using k3
  have hq : walkedK k i.toNat = false := by simp [walkedK, k1, k2, k3, k4]
  rw [hq]
  clear hq k1 k2 k3 k4
  go_enter Try.func20, Try.ntmps20
  go_wp2_with fail
  go_ret
  exact ⟨rfl, (Below.refl _ _).alloc (Nat.le_refl _) _⟩

end Go.Proofs.Qxb6614851a.Agg
