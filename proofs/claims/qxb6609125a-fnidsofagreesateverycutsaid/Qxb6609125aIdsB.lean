/-
  'FnIdsOfAgreesAtEveryCut': THE WALK of the law's own body, out of its callees' contracts, and the row.
-/
import Derived.Test.Qxb6609125aIdsA
import Derived.ProofKit
import Derived.OpenShut
import Derived.ShutString
import Derived.ChangeOld
import Derived.SliceStrings
namespace Go.Proofs.Qxb6609125a.Ids
open Go.RowKit Go.Proofs.Qxb6609125a.Kit
open Go.ChangeShapes Go.WideShapes Go.ChangeAt

/-- What the last loop asks of the three lists that idsOf made. -/
def Three (w : World) (ba bl br n k : Nat) (ss : List ByteArray) : Prop :=
  (∀ i, i < n → w.cell? ⟨ba, i, none⟩ = some (.string (ss.getD i ByteArray.empty))) ∧ (∀ i, i < k → w.cell? ⟨bl, i, none⟩ = some (.string (ss.getD i ByteArray.empty))) ∧
  ∀ i, k ≤ i → i < n → w.cell? ⟨br, i - k, none⟩ = some (.string (ss.getD i ByteArray.empty))

theorem accAt_kept {w w' : World} {g n : Nat} {l : Nat → ByteArray} (h : AccAt w g n l) (hg : g < w.heap.size) (hb : Below w.heap.size w w') : AccAt w' g n l :=
  ⟨fun i hi j v hv => by rw [hb.cell (p := ⟨g, i * 20 + j, none⟩) hg]; exact h.1 i hi j v hv, fun o => by rw [hb.frozen (p := ⟨g, o, none⟩) hg]; exact h.2 o⟩

/-- The part [lo, hi) of the accepted instructions, at the address at which a cut puts it. -/
theorem inAcc_cut {w : World} {g n : Nat} {ss : List ByteArray} (h : AccAt w g n (fun i => ss.getD i ByteArray.empty)) (lo : Nat) (a : Option Addr) (ha : lo < n → a = some ⟨g, lo * 20, none⟩) (xs : List ByteArray)
    (hx : xs.length ≤ n - lo) (he : ∀ i, i < xs.length → xs.getD i ByteArray.empty = ss.getD (lo + i) ByteArray.empty) : InAcc w a xs := fun i hi => by
  refine ⟨g, lo * 20, ha (by omega), ?_⟩
  rw [he i hi, show lo * 20 + i * 20 = (lo + i) * 20 by omega]
  exact h.1 (lo + i) (by omega)

theorem getD_take (ss : List ByteArray) (m i : Nat) (hi : i < m) : (ss.take m).getD i ByteArray.empty = ss.getD i ByteArray.empty := by
  simp [List.getD, hi]
theorem getD_drop (ss : List ByteArray) (m i : Nat) : (ss.drop m).getD i ByteArray.empty = ss.getD (m + i) ByteArray.empty := by
  simp [List.getD]
theorem inAcc_all {w : World} {g n : Nat} {ss : List ByteArray} (h : AccAt w g n (fun i => ss.getD i ByteArray.empty)) (hs : ss.length = n) : InAcc w (some ⟨g, 0, none⟩) ss :=
  inAcc_cut h 0 _ (fun _ => by simp) ss (by omega) (fun i _ => by simp)
theorem inAcc_take {w : World} {g n m : Nat} {ss : List ByteArray} (h : AccAt w g n (fun i => ss.getD i ByteArray.empty)) (hs : ss.length = n) : InAcc w (some ⟨g, 0, none⟩) (ss.take m) :=
  inAcc_cut h 0 _ (fun _ => by simp) (ss.take m) (by simp; omega) (fun i hi => by simp only [List.length_take] at hi; rw [getD_take ss m i (by omega), Nat.zero_add])
theorem inAcc_drop {w : World} {g n m : Nat} {a : Option Addr} {ss : List ByteArray} (h : AccAt w g n (fun i => ss.getD i ByteArray.empty)) (hs : ss.length = n) (ha : m < n → a = some ⟨g, m * 20, none⟩) : InAcc w a (ss.drop m) :=
  inAcc_cut h m _ ha (ss.drop m) (by simp; omega) (fun i _ => getD_drop ss m i)

theorem three_drewN {w : World} {ba bl br n k : Nat} {ss : List ByteArray} (h : Three w ba bl br n k ss) (q : Nat) : Three (w.drewN q) ba bl br n k ss :=
  ⟨fun i hi => by simpa using h.1 i hi, fun i hi => by simpa using h.2.1 i hi, fun i h1 hi => by simpa using h.2.2 i h1 hi⟩
theorem inStrs_drewN {w : World} {a : Option Addr} {ss : List ByteArray} (h : InStrs w a ss) (q : Nat) : InStrs (w.drewN q) a ss := fun i hi => by
  obtain ⟨b, off, ha, hc⟩ := h i hi
  exact ⟨b, off, ha, by simpa using hc⟩

theorem three_mk {w3 w4 w5 : World} {g3 g4 g5 n m : Nat} {ss : List ByteArray} (h3 : StrRow w3 g3 n n ss) (h4 : StrRow w4 g4 m m (ss.take m)) (h5 : StrRow w5 g5 (n - m) (n - m) (ss.drop m)) (l3 : g3 < w3.heap.size) (l4 : g4 < w4.heap.size)
    (b4 : Below w3.heap.size w3 w4) (b5 : Below w4.heap.size w4 w5) : Three w5 g3 g4 g5 n m ss := by
  refine ⟨fun i hi => ?_, fun i hi => ?_, fun i h1 hi => ?_⟩
  · have := b4.size
    rw [b5.cell (p := ⟨g3, i, none⟩) (by show g3 < _; omega), b4.cell (p := ⟨g3, i, none⟩) l3]
    exact h3.1 i hi
  · rw [b5.cell (p := ⟨g4, i, none⟩) l4, h4.1 i hi, getD_take ss m i hi]
  · rw [h5.1 (i - m) (by omega), getD_drop, show m + (i - m) = i by omega]

set_option maxHeartbeats 1000000 in
theorem f5_any (a : Option Addr) (len cap : Nat) (k : Int) (ss : List ByteArray) (w : World) (hn : len ≤ 9223372036854775807) (hs : ss.length = len) (h0 : a = none → cap = 0) (hc : InStrs w a ss) :
    Calls Try.prog 5 #[.slice a len cap, .int .i64 k] w fun e w' => e = .returned (.bool true) ∧ Below w.heap.size w w' := by
  have HS : Hid (ss.length = len) := hs
  clear hs
  have HC : Hid (InStrs w a ss) := hc
  clear hc
  go_enter Try.func5, Try.ntmps5
  go_wp2_with fail
  refine (f12_any a len cap k ss _ hn HS.out HC.out).mono ?_
  rintro e w' ⟨⟨r, rfl⟩, rfl⟩
  cases r with
  | false =>
    go_wp2
    go_ret
    exact ⟨rfl, Below.refl _ _⟩
  | true =>
  by_cases hbig : 65536 < len
  · go_wp2
    go_ret
    exact ⟨rfl, Below.refl _ _⟩
  go_wp2
  go_loop [5, 6] (fun n i => ∃ (k : Nat) (z : Int), k ≤ len ∧ i = .int .i64 k ∧ n = .int .i64 z) (fun _ i => len - (intOf i).toNat)
  case atStart => exact ⟨0, _, Nat.zero_le _, rfl, rfl⟩
  case round =>
    obtain ⟨j, z, hj, rfl, rfl⟩ := hrel
    by_cases hlt : j < len
    · obtain ⟨b, off, rfl, hcell⟩ := HC.out j (by have := HS.out; omega)
      generalize ss.getD j ByteArray.empty = s at hcell
      go_wp2
      · go_ret; exact ⟨rfl, Below.refl _ _⟩
      · go_round
        case rel => exact ⟨j + 1, _, by omega, by go_num, rfl⟩
        case measure => simp [intOf]; omega
    · by_cases hk0 : k < 0
      · go_wp2
        go_ret; exact ⟨rfl, Below.refl _ _⟩
      by_cases hk1 : (len : Int) < k
      · go_wp2
        go_ret; exact ⟨rfl, Below.refl _ _⟩
      obtain ⟨m, rfl⟩ := Int.eq_ofNat_of_zero_le (show 0 ≤ k by omega)
      have hm : m ≤ len := by omega
      clear hk0 hk1
      go_wp2_with fail
      refine (f14_any a len cap ss _ (by omega) HS.out h0 HC.out).mono ?_
      rintro e w1 ⟨a1, rfl, hc1, hb1⟩
      go_wp2_with fail
      refine (f13_any a1 len len ss _ (by omega) HS.out hc1).mono ?_
      rintro e w2 ⟨rfl, hA2, hz2, hb2⟩
      have hA2' : Hid (AccAt w2 w1.heap.size len (fun i => ss.getD i ByteArray.empty)) := hA2
      clear hA2 hc1
      go_wp2_with fail
      refine (f15_any (some ⟨w1.heap.size, 0, none⟩) len len ss _ (by omega) HS.out (inAcc_all hA2'.out HS.out)).mono ?_
      rintro e w3 ⟨rfl, hr3, hz3, hb3⟩
      have hR3 : Hid (StrRow w3 w2.heap.size len len ss) := hr3
      clear hr3
      go_wp2_with fail
      have hA3 : Hid (AccAt w3 w1.heap.size len (fun i => ss.getD i ByteArray.empty)) := accAt_kept hA2'.out hz2 hb3
      refine (f15_any (some ⟨w1.heap.size, 0, none⟩) m len (ss.take m) _ (by omega) (by have := HS.out; simp; omega) (inAcc_take hA3.out HS.out)).mono ?_
      rintro e w4 ⟨rfl, hr4, hz4, hb4⟩
      have hR4 : Hid (StrRow w4 w3.heap.size m m (ss.take m)) := hr4
      clear hr4
      have hA4 : Hid (AccAt w4 w1.heap.size len (fun i => ss.getD i ByteArray.empty)) := accAt_kept hA3.out (by have := hb3.size; omega) hb4
      go_wp2_with fail
      all_goals
        refine (f15_any _ _ _ (ss.drop m) _ (by omega) (by have := HS.out; simp; omega) (inAcc_drop hA4.out HS.out (by intro _; first | rfl | omega))).mono ?_
        rintro e w5 ⟨rfl, hr5, hz5, hb5⟩
        have hR5 : Hid (StrRow w5 w4.heap.size (len - m) (len - m) (ss.drop m)) := by first | exact hr5 | (rw [show len - m = 0 by omega]; exact hr5)
        clear hr5
        go_wp2_with fail
        have hT : Hid (Three w5 w2.heap.size w3.heap.size w4.heap.size len m ss) := three_mk hR3.out hR4.out hR5.out hz3 hz4 hb4 hb5
        have z1 := hb1.size
        have z2 := hb2.size
        have z3 := hb3.size
        have z4 := hb4.size
        have hB : Below w'.heap.size w' w5 := (((hb1.trans (hb2.mono z1)).trans (hb3.mono (by omega))).trans (hb4.mono (by omega))).trans (hb5.mono (by omega))
        have hC5 : Hid (InStrs w5 a ss) := inStrs_kept HC.out hB
        clear hR3 hR4 hR5 hA4 hA3 hA2' hb1 hb2 hb3 hb4 hb5 z1 z2 z3 z4 hz2 hz3 hz4 hz5
        go_loopw [11] (fun i wr => ∃ t : Nat, t ≤ len ∧ i = .int .i64 t ∧ Hid (Three wr w2.heap.size w3.heap.size w4.heap.size len m ss) ∧ Hid (InStrs wr a ss) ∧ Below w'.heap.size w' wr) (fun i _ => len - (intOf i).toNat)
        case atStart => exact ⟨0, Nat.zero_le _, rfl, hT, hC5, hB⟩
        case round =>
          obtain ⟨t, ht, rfl, hTr, hCr, hBr⟩ := hrel
          clear hT hC5 hB
          by_cases hlt2 : t < len
          · obtain ⟨b, off, rfl, hcell⟩ := hCr.out t (by have := HS.out; omega)
            have q1 := hTr.out.1 t hlt2
            by_cases htm : t < m
            · have q2 := hTr.out.2.1 t htm
              generalize ss.getD t ByteArray.empty = s at hcell q1 q2
              go_wp2
              go_quiet (fail)
              go_wp2
              go_quiet (fail)
              go_wp2
              go_roundw
              case rel => exact ⟨t + 1, by omega, by go_num, three_drewN hTr.out _, inStrs_drewN hCr.out _, below_drewN hBr _⟩
              case measure => simp [intOf]; omega
            · have q2 := hTr.out.2.2 t (by omega) hlt2
              try (exfalso; omega)
              all_goals
                generalize ss.getD t ByteArray.empty = s at hcell q1 q2
                go_wp2
                go_quiet (fail)
                go_wp2
                go_quiet (fail)
                go_wp2
                go_roundw
                case rel => exact ⟨t + 1, by omega, by go_num, three_drewN hTr.out _, inStrs_drewN hCr.out _, below_drewN hBr _⟩
                case measure => simp [intOf]; omega
          · go_wp2
            go_ret
            exact ⟨rfl, hBr⟩

theorem own : ownKnob Try.prog.godebug = none := by kernel_rfl
theorem laidOut : laidOutB Try.prog = true := by kernel_rfl
theorem cells9 : Try.prog.cellsOf 9 = 1 := by kernel_rfl

set_option maxRecDepth 100000 in
theorem lifted (os : Os) (started : os.Started) (H : Type) (enc : TypeId × Value → H) :
    ReturnsInHanded {} Try.checked os 5 .any (Rows.fnIdsOfAgreesAtEveryCutSpec.pre6 enc Try.prog Try.f5 Rows.fnIdsOfAgreesAtEveryCutRow.domain false) (Rows.fnIdsOfAgreesAtEveryCutSpec.post enc Try.prog Try.f5 false true false false) := by
  refine returnsInHanded_of_change (C := Try.checked) own started (by kernel_rfl) Try.func5
    (ChangeSpec.witness6 (enc := enc) (C := Try.checked) false ⟨#[], #[.slice none 0 0, .int .i64 0], []⟩ 8 (by kernel_rfl) (by kernel_rfl) (by kernel_rfl) (by kernel_rfl)) ?_
  intro W base args ds gs before hval0 hW hcnd _
  have hval : ∀ (j : Nat) t v, Try.f5.params[j]? = some t → args[j]? = some v → Value.okWide Try.prog W .any base t v := hval0
  have hW' := hW
  obtain ⟨p, q, hA0, hV, rfl, hfz, hnd⟩ := hW
  have hA : DataW.TrodAll enc Try.prog W 0 (fun _ => true) true Try.f5.params.toList args.toList ds p := hA0
  rw [Try.params5] at hA hval
  obtain ⟨v0, vs0, d0, ds0, p0, q0, hargs, rfl, rfl, h0, r0⟩ := trodAll_cons hA
  obtain ⟨v1, vs1, d1, ds1, p1, q1, rfl, rfl, rfl, h1, r1⟩ := trodAll_cons r0
  obtain ⟨rfl, rfl, rfl⟩ := trodAll_nil r1
  obtain rfl : args = #[v0, v1] := by cases args; simp_all
  obtain ⟨rfl, rfl⟩ := trodVars_none hV
  obtain ⟨a0, len0, cap0, rfl⟩ := okWide_slice Try.underlying32 (hval 0 32 v0 rfl rfl)
  obtain ⟨k, rfl, rfl, rfl, wk⟩ := open_int Try.underlying3 (hval 1 3 v1 rfl rfl) h1
  have k0 := h0
  have lt0 : ∀ x ∈ p0, x.block < W.heap.size := by obtain ⟨m, hm⟩ := k0; exact DataW.trod_lt m _ _ _ hm
  obtain ⟨ss, hss, hn, hnil, hin⟩ : ∃ ss : List ByteArray, ss.length = len0 ∧ len0 ≤ 9223372036854775807 ∧ (a0 = none → cap0 = 0) ∧ InStrs W a0 ss := by
    obtain ⟨fuel, hf⟩ := h0
    rcases open_strings Try.underlying32 Try.underlying9 cells9 hf with ⟨hcs, _⟩ | ⟨x, l, c, ss, hcs, _, hl, hm, hz, _, hcell, hwz⟩
    · simp [Value.cells] at hcs
      obtain ⟨rfl, rfl, rfl⟩ := hcs
      exact ⟨[], rfl, by omega, fun _ => rfl, fun i hi => absurd hi (Nat.not_lt_zero _)⟩
    · simp [Value.cells] at hcs
      obtain ⟨rfl, rfl, rfl⟩ := hcs
      simp only [if_true] at hz
      refine ⟨ss.take len0, by simp; omega, by unfold maxLen at hm; omega, (fun h => by simp at h), fun i hi => ?_⟩
      simp only [List.length_take] at hi
      obtain ⟨b, off, spot⟩ := x
      have hc0 := hcell i (by omega)
      have hspot : spot = none := by
        have := World.cell?_spot (hcell 0 (by omega))
        simpa [Addr.add] using this
      subst hspot
      rw [Addr.add_mid] at hc0
      exact ⟨b, off, rfl, by rw [getD_take ss len0 i (by omega)]; exact hc0⟩
  clear hA0 hval0
  refine (f5_any a0 len0 cap0 k ss W hn hss hnil hin).mono fun e W' ⟨he, bel⟩ => ?_
  subst he
  exact ⟨_, rfl, _, _, _, [], _, [], hW', trodAll_mk1 (shut_bool Try.underlying4 _), (trodAll_cons_mk (Below.trod laidOut (by kernel_rfl) (of_decide_eq_true (by kernel_rfl)) k0 bel lt0) (trodAll_cons_mk (shut_int Try.underlying3 wk) trodAll_mk0)), rfl, bel.frame _, fun h => by cases h⟩

theorem over : Rows.fnIdsOfAgreesAtEveryCutRow.holds Try.pinned (OpenSpec.ofChange Rows.fnIdsOfAgreesAtEveryCutSpec) :=
  OpenClaim.holds_of_wide 5 Try.f5 rfl rfl rfl rfl rfl rfl rfl ⟨rfl, rfl, rfl, rfl, rfl⟩ rfl rfl rfl rfl rfl (by kernel_rfl) Try.func5 (by kernel_rfl)
    (of_decide_eq_true (by kernel_rfl)) (by unfold Func.isWrapper; first | (rw [if_pos (by decide +kernel)]; kernel_rfl) | (rw [if_neg (by decide +kernel)]; exact ⟨rfl, rfl⟩))
    (fun os started H enc _ => lifted os started H enc)

/-- THE STATEMENT. -/
theorem proved : Rows.FnIdsOfAgreesAtEveryCutSaid := over
#print axioms proved
end Go.Proofs.Qxb6609125a.Ids
