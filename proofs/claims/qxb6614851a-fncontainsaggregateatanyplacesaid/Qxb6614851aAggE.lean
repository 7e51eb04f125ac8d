/-
  'reachesAggregate' (9): the worklist.
-/
import Derived.Test.Qxb6614851aAggD
import Derived.Maps.AppendAt
import Derived.Deep.LoopGhost
namespace Go.Proofs.Qxb6614851a.Agg
open Go.RowKit Go.Proofs.Qxb6614851a.Kit

/-- One node on the stack: its three cells, its answer, its size. -/
structure Ent where
  c0 : Value
  c1 : Value
  c2 : Value
  h : Bool
  sz : Nat
def cellsE : List Ent → List Value
  | [] => []
  | e :: L => e.c0 :: e.c1 :: e.c2 :: cellsE L
def anyE : List Ent → Bool
  | [] => false
  | e :: L => e.h || anyE L
def totE : List Ent → Nat
  | [] => 0
  | e :: L => e.sz + totE L
def NodesE (ok : Nat → Prop) (n : Nat) (w : World) (L : List Ent) : Prop := ∀ e, e ∈ L → NodeIn ok n w (.agg #[e.c0, e.c1, e.c2]) e.h e.sz

theorem cellsE_length : ∀ L : List Ent, (cellsE L).length = L.length * 3
  | [] => rfl
  | e :: L => by simp [cellsE, cellsE_length L]; omega
theorem cellsE_append : ∀ L M : List Ent, cellsE (L ++ M) = cellsE L ++ cellsE M
  | [], M => rfl
  | e :: L, M => by simp [cellsE, cellsE_append L M]
theorem anyE_append : ∀ L M : List Ent, anyE (L ++ M) = (anyE L || anyE M)
  | [], M => by simp [anyE]
  | e :: L, M => by simp [anyE, anyE_append L M, Bool.or_assoc]
theorem totE_append : ∀ L M : List Ent, totE (L ++ M) = totE L + totE M
  | [], M => by simp [totE]
  | e :: L, M => by simp [totE, totE_append L M]; omega
theorem totE_ge {ok : Nat → Prop} {n : Nat} {w : World} : ∀ {L : List Ent}, NodesE ok n w L → 40 * L.length ≤ totE L
  | [], _ => by simp [totE]
  | e :: L, h => by
    have h1 := nodeIn_size (h e (by simp))
    have h2 := totE_ge (L := L) (fun x hx => h x (by simp [hx]))
    simp only [List.length_cons, totE]; omega

/-- The stack: it owns its row. -/
def Stk (B : Nat) (wr : World) (g m cap : Nat) (L : List Ent) : Prop := L.length = m ∧ wr.ownsRow B 24 3 (.slice (some ⟨g, 0, none⟩) m cap) m (cellsE L)

theorem stk_cap {B : Nat} {wr : World} {g m cap : Nat} {L : List Ent} (h : Stk B wr g m cap L) : m ≤ cap ∧ B ≤ g ∧ g < wr.heap.size := by
  have hl := h.2.lt g rfl
  rcases h.2.2 with ⟨h0, _⟩ | ⟨g', cap', cur, hv, hb, hg, hn, _⟩
  · cases h0
  · simp only [Value.slice.injEq, Option.some.injEq, Addr.mk.injEq, and_true, true_and] at hv
    obtain ⟨rfl, rfl⟩ := hv
    exact ⟨hn, hl⟩
theorem stk_last {B : Nat} {wr : World} {g m cap : Nat} {L : List Ent} {e : Ent} (h : Stk B wr g (m + 1) cap (L ++ [e])) :
    wr.cell? ⟨g, m * 3, none⟩ = some e.c0 ∧ wr.cell? ⟨g, m * 3 + 1, none⟩ = some e.c1 ∧ wr.cell? ⟨g, m * 3 + 2, none⟩ = some e.c2 := by
  have hl : L.length = m := by have := h.1; simpa using this
  have hc := cellsE_length L
  have key : ∀ t, t < 3 → wr.cell? ⟨g, m * 3 + t, none⟩ = [e.c0, e.c1, e.c2][t]? := fun t ht => by
    rw [h.2.cellAt (m * 3 + t) (by omega), cellsE_append, List.getElem?_append_right (by omega), hc, hl]
    rw [show m * 3 + t - m * 3 = t by omega]
    rfl
  exact ⟨key 0 (by omega), key 1 (by omega), key 2 (by omega)⟩
theorem stk_pop {B : Nat} {wr : World} {g m cap : Nat} {L : List Ent} {e : Ent} (h : Stk B wr g (m + 1) cap (L ++ [e])) : Stk B wr g m cap L := by
  have hl : L.length = m := by have := h.1; simpa using this
  refine ⟨hl, ownsRow_pop (last := cellsE [e]) (by rw [cellsE_length, hl]) ?_⟩
  rw [← cellsE_append]; exact h.2
theorem stk_alloc {B : Nat} {wr : World} {g m cap : Nat} {L : List Ent} (h : Stk B wr g m cap L) (o : Obj) : Stk B (wr.alloc o) g m cap L := ⟨h.1, h.2.alloc o⟩

theorem stk_kept {B : Nat} {wr w' : World} {g m cap : Nat} {L : List Ent} (h : Stk B wr g m cap L) (hb : Below wr.heap.size wr w') : Stk B w' g m cap L := by
  refine ⟨h.1, h.2.1, ?_⟩
  rcases h.2.2 with h0 | ⟨g', cap', cur, hv, hB, hg, hr⟩
  · exact .inl h0
  · have hl : g' < wr.heap.size := by
      by_cases h1 : g' < wr.heap.size
      · exact h1
      · have : wr.heap[g']? = none := by simp; omega
        rw [this] at hg; cases hg
    exact .inr ⟨g', cap', cur, hv, hB, by rw [hb.block g' hl]; exact hg, hr⟩
theorem sumTo_mono {f : Nat → Nat} {i n : Nat} (h : i ≤ n) : sumTo i f ≤ sumTo n f := by
  induction h with
  | refl => exact Nat.le_refl _
  | step _ ih => rw [sumTo]; omega
theorem info24 : (Try.prog.info? 24).map (fun i => (i.zero, i.size, i.bytes)) = some (some (.agg #[.int .u8 0, .string ByteArray.empty, .slice none 0 0]), 3, 48) := by kernel_rfl

theorem cells_one_new (w : World) (cs : List Value) (e : TypeId) : ∀ j u, cs[j]? = some u → (w.alloc (.cells cs.toArray e)).cell? ((⟨w.heap.size, 0, none⟩ : Addr).add j) = some u := fun j u hu => by
  rw [Addr.add_mid, cell_of_row _ _ _ _ _ _ (heap_alloc_new w _), Nat.zero_add]
  simpa using hu
theorem three_each (k : Int) (s : ByteArray) (a : Option Addr) (l c : Nat) : ∀ u, u ∈ ([.int .u8 k, .string s, .slice a l c] : List Value) → u.oneCell' = true := fun u hu => by
  simp at hu
  rcases hu with rfl | rfl | rfl <;> rfl
theorem maxLen_small {n : Nat} (h : n ≤ 1048576) : n ≤ maxLen := by unfold maxLen; omega
theorem size_le_new {B : Nat} {w : World} (h : B ≤ w.heap.size) (o : Obj) : B ≤ (w.alloc o).heap.size := by rw [size_new]; omega
theorem own_form {B : Nat} {w : World} {v : Value} {m : Nat} {xs : List Value} (h : w.ownsRow B 24 3 v (m + 1) xs) : ∃ g cap, v = .slice (some ⟨g, 0, none⟩) (m + 1) cap := by
  rcases h.2 with ⟨_, h0⟩ | ⟨g, cap, cur, hv, _⟩
  · omega
  · exact ⟨g, cap, hv⟩

theorem stk_start (w : World) (k0 : Int) (s0 : ByteArray) (a0 : Option Addr) (len0 cap0 : Nat) (h : Bool) (sz : Nat) :
    Stk w.heap.size ((w.alloc (.cells #[.int .u8 k0, .string s0, .slice a0 len0 cap0] 24)).alloc (.cells #[.int .u8 k0, .string s0, .slice a0 len0 cap0] 24)) (w.heap.size + 1) 1 1 [⟨.int .u8 k0, .string s0, .slice a0 len0 cap0, h, sz⟩] := by
  have h1 := World.ownsRow_lit (base := w.heap.size) (e := 24) (size := 3) (w.alloc (.cells #[.int .u8 k0, .string s0, .slice a0 len0 cap0] 24)) #[.int .u8 k0, .string s0, .slice a0 len0 cap0] 1 (by rw [size_new]; omega) (by decide) rfl
  rw [size_new] at h1
  exact ⟨rfl, h1⟩

set_option maxHeartbeats 4000000 in
set_option maxRecDepth 100000 in
/-- 'reachesAggregate'. -/
theorem f9_any {ok : Nat → Prop} (n : Nat) (v : Value) (h : Bool) (sz : Nat) (w : World) (hn : NodeIn ok n w v h sz) (hM : sz ≤ 1048576) :
    Calls Try.prog 9 #[v] w fun e w' => e = .returned (.bool h) ∧ Below w.heap.size w w' := by
  obtain ⟨k0, s0, a0, len0, cap0, rfl⟩ := node_shape hn
  have HN := hide hn
  clear hn
  go_enter Try.func9, Try.ntmps9
  go_wp2_with fail
  have hst := stk_start w k0 s0 a0 len0 cap0 h sz
  obtain ⟨W1, hW1⟩ : ∃ W1, W1 = (w.alloc (.cells #[.int .u8 k0, .string s0, .slice a0 len0 cap0] 24)).alloc (.cells #[.int .u8 k0, .string s0, .slice a0 len0 cap0] 24) := ⟨_, rfl⟩
  rw [← hW1] at hst ⊢
  have hB1 : Below w.heap.size w W1 := by rw [hW1]; exact ((Below.refl _ _).alloc (Nat.le_refl _) _).alloc (by rw [size_new]; omega) _
  clear hW1
  go_loopg [3, 4, 5] sz (fun T sv _ _ wr => ∃ g m cap L, sv = .slice (some ⟨g, 0, none⟩) m cap ∧ Hid (Stk w.heap.size wr g m cap L) ∧ Hid (NodesE ok n w L) ∧ Hid (anyE L = h) ∧ Hid (totE L = T) ∧ T ≤ 1048576 ∧ Below w.heap.size w wr)
  case atStart => exact ⟨w.heap.size + 1, 1, 1, [⟨.int .u8 k0, .string s0, .slice a0 len0 cap0, h, sz⟩], rfl, hst, (fun e he => by simp at he; subst he; exact HN.out), by show _ = _; simp [anyE], by show _ = _; simp [totE], hM, hB1⟩
  case round =>
    obtain ⟨g, m, cap, L, rfl, HST, HNS, HAN, HTO, hT, hBr⟩ := hrel
    clear hst hB1
    have hcap := stk_cap HST.out
    have hm1 : 40 * m ≤ 1048576 := by have h1 := totE_ge HNS.out; have h2 := HTO.out; have h3 := HST.out.1; omega
    by_cases hm0 : m = 0
    · subst hm0
      have hL : L = [] := List.eq_nil_of_length_eq_zero HST.out.1
      go_wp2_with fail
      go_ret
      exact ⟨by rw [← HAN.out, hL]; rfl, hBr⟩
    obtain ⟨m', rfl⟩ : ∃ m', m = m' + 1 := ⟨m - 1, by omega⟩
    obtain ⟨L0, e, hL⟩ : ∃ L0 e, L = L0 ++ [e] := by
      have hne : L ≠ [] := fun h0 => by have := HST.out.1; rw [h0] at this; simp at this
      exact ⟨L.dropLast, L.getLast hne, (List.dropLast_concat_getLast hne).symm⟩
    subst hL
    obtain ⟨q0, q1, q2⟩ := stk_last HST.out
    have hne := HNS.out e (by simp)
    obtain ⟨n', hn'⟩ : ∃ n', n = n' + 1 := by
      cases n with
      | zero => exact hne.elim
      | succ n' => exact ⟨n', rfl⟩
    subst hn'
    obtain ⟨k, s, a, len, kcap, hs, szs, hv, hl, hk, hh, hsz⟩ := hne
    simp only [Value.agg.injEq, Array.mk.injEq, List.cons.injEq, and_true] at hv
    obtain ⟨v0, v1, v2⟩ := hv
    rw [v0] at q0
    rw [v1] at q1
    rw [v2] at q2
    have HK := hide hk
    have HH := hide hh
    have HSZ := hide hsz
    clear v0 v1 v2 hk hh hsz
    have htot : totE (L0 ++ [e]) = totE L0 + (40 + s.size + sumTo len szs) := by rw [totE_append, totE, totE, HSZ.out, Nat.add_zero]
    have hge : 40 * len ≤ sumTo len szs := sumTo_ge (fun i hi => by obtain ⟨_, _, _, _, _, _, _, _, hkid⟩ := HK.out i hi; exact nodeIn_size hkid)
    have hlen : len ≤ 26214 := by have := HTO.out; omega
    have HTOT := hide htot
    clear htot hge hm0
    cases hag : (k == 1 && aggName s) with
    | true =>
      obtain ⟨hk1, ha1⟩ := Bool.and_eq_true_iff.1 hag
      have hk1' : k = 1 := by simpa using hk1
      subst hk1'
      have HA1 := hide ha1
      have HE : Hid (e.h = true) := by show _ = _; rw [HH.out, has_call, HA1.out]; rfl
      clear hag hk1 ha1
      go_wp2_with fail
      refine (f11_any s _).mono ?_
      rintro e' w2 ⟨rfl, rfl⟩
      rw [HA1.out]
      go_wp2_with fail
      go_ret
      exact ⟨by rw [← HAN.out, anyE_append, anyE, HE.out]; simp, hBr.alloc hBr.size _⟩
    | false =>
      have HAG := hide hag
      clear hag
      obtain ⟨wo, hwo⟩ : ∃ wo, wo = wr := ⟨_, rfl⟩
      subst hwo
      have hxb : Hid ((wo.alloc (.cells #[.int .u8 k, .string s, .slice a len kcap] 24)).heap[wo.heap.size]? = some (.cells #[.int .u8 k, .string s, .slice a len kcap] 24 (0, 0))) := heap_alloc_new wo _
      have hst0 : Hid (Stk w.heap.size (wo.alloc (.cells #[.int .u8 k, .string s, .slice a len kcap] 24)) g m' cap L0) := stk_alloc (stk_pop HST.out) _
      have hns0 : Hid (NodesE ok (n' + 1) w L0) := fun x hx => HNS.out x (by simp [hx])
      have hb0 : Below w.heap.size w (wo.alloc (.cells #[.int .u8 k, .string s, .slice a len kcap] 24)) := hBr.alloc hBr.size _
      have hz0 := size_new wo (.cells #[.int .u8 k, .string s, .slice a len kcap] 24)
      have HZ0 := hide hz0
      clear hz0
      cases hkb : (k == 1)
      case' true =>
        have ha1 : aggName s = false := by have := HAG.out; rw [hkb] at this; simpa using this
        have HA1 := hide ha1
        clear ha1
        go_wp2_with fail
        refine (f11_any s _).mono ?_
        rintro e' w2 ⟨rfl, rfl⟩
        rw [HA1.out]
      all_goals
        go_wp2_with fail
        go_loopw [3, 5] (fun sv i wi => ∃ j g2 m2 cap2 L2, j ≤ len ∧ i = .int .i64 (j : Nat) ∧ sv = .slice (some ⟨g2, 0, none⟩) m2 cap2 ∧ Hid (Stk w.heap.size wi g2 m2 cap2 L2) ∧ Hid (NodesE ok (n' + 1) w L2) ∧
            Hid (anyE L2 = (anyE L0 || anyTo j (fun i => walkedK k i && hs i))) ∧ Hid (totE L2 ≤ totE L0 + sumTo j szs) ∧ Hid (wi.heap[wo.heap.size]? = some (.cells #[.int .u8 k, .string s, .slice a len kcap] 24 (0, 0))) ∧ g2 ≠ wo.heap.size ∧ wo.heap.size < wi.heap.size ∧ Below w.heap.size w wi) (fun _ i _ => len - (intOf i).toNat)
        case atStart => exact ⟨0, g, m', cap, L0, Nat.zero_le _, rfl, rfl, hst0, hns0, by show _ = _; simp [anyTo], by show _ ≤ _; simp [sumTo], hxb, by omega, by have := HZ0.out; omega, hb0⟩
        case round =>
          obtain ⟨j, g2, m2, cap2, L2, hj, rfl, rfl, HS2, HN2, HA2, HT2, HX2, hg2, hz2, hb2⟩ := hrel
          clear hst0 hns0 hb0 HZ0 hxb q0 q1 q2
          have hcap2 := stk_cap HS2.out
          have x0 : wr.cell? ⟨wo.heap.size, 0, none⟩ = some (.int .u8 k) := by rw [cell_of_row _ _ _ _ _ _ HX2.out]; rfl
          have x1 : wr.cell? ⟨wo.heap.size, 1, none⟩ = some (.string s) := by rw [cell_of_row _ _ _ _ _ _ HX2.out]; rfl
          have x2 : wr.cell? ⟨wo.heap.size, 2, none⟩ = some (.slice a len kcap) := by rw [cell_of_row _ _ _ _ _ _ HX2.out]; rfl
          by_cases hlt : j < len
          · obtain ⟨b, off, c0, c1, c2, rfl, hok, hr, hkid⟩ := HK.out j hlt
            have HKID := hide hkid
            have HR := hide hr
            clear hr hkid
            have hw0 : walkedI k len (j : Int) = walkedK k j := by simp [walkedI]; omega
            have HW0 := hide hw0
            clear hw0
            go_wp2_with fail
            refine (f20_any k s _ len kcap j _).mono ?_
            rintro e' w2 ⟨rfl, hb3⟩
            rw [HW0.out]
            have hS3 : Hid (Stk w.heap.size w2 g2 m2 cap2 L2) := stk_kept HS2.out hb3
            have hX3 : Hid (w2.heap[wo.heap.size]? = some (.cells #[.int .u8 k, .string s, .slice (some ⟨b, off, none⟩) len kcap] 24 (0, 0))) := by show _ = _; rw [hb3.block _ hz2]; exact HX2.out
            have hz3 : wo.heap.size < w2.heap.size := by have := hb3.size; omega
            have hB3 : Below w.heap.size w w2 := hb2.trans (hb3.mono hb2.size)
            clear HS2 HX2 hz2 hb2 hb3 x0 x1 x2
            cases hwk : walkedK k j with
            | false =>
              have HWK := hide hwk
              clear hwk
              go_wp2_with fail
              go_roundw
              case rel => exact ⟨j + 1, g2, m2, cap2, L2, by omega, by go_num, rfl, hS3, HN2, by show _ = _; rw [HA2.out, anyTo, HWK.out]; simp, by show _ ≤ _; have := HT2.out; rw [sumTo]; omega, hX3, hg2, hz3, hB3⟩
              case measure => simp [intOf]; omega
            | true =>
              have HWK := hide hwk
              clear hwk
              have y2 : w2.cell? ⟨wo.heap.size, 2, none⟩ = some (.slice (some ⟨b, off, none⟩) len kcap) := by rw [cell_of_row _ _ _ _ _ _ hX3.out]; rfl
              obtain ⟨e0, e1, e2⟩ := cells3 (range_kept HR.out hB3)
              obtain ⟨i0, hi, hzz0, hzz1, hzz2⟩ := info_parts info24
              have hm2 : m2 ≤ 26214 := by have h1 := totE_ge HN2.out; have h2 := HT2.out; have h3 := hS3.out.1; have h4 := sumTo_mono (f := szs) (show j ≤ len by omega); have h5 := HTOT.out; have h6 := HTO.out; omega
              obtain ⟨k9, s9, a9, l9, p9, hsh⟩ := node_shape HKID.out
              simp only [Value.agg.injEq, Array.mk.injEq, List.cons.injEq, and_true] at hsh
              obtain ⟨rfl, rfl, rfl⟩ := hsh
              go_wp2_with (at_builtin; refine wpList_append_own_at _ rfl _ _ 22 rfl w.heap.size 24 i0 _ 3 48 Try.underlying22 hi hzz0 hzz1 hzz2 rfl (by decide) _ _ _ rfl (hS3.out.2.alloc _) ⟨w2.heap.size, 0, none⟩ 1 1 [.int .u8 k9, .string s9, .slice a9 l9 p9] rfl rfl (cells_one_new w2 [.int .u8 k9, .string s9, .slice a9 l9 p9] 24) (three_each k9 s9 a9 l9 p9) (maxLen_small (by omega)) (by omega) (size_le_new hB3.size _) ?_)
              intro v4 w4 hown4 hgrow4 hnn4 hat4
              obtain ⟨g4, cap4, hv4⟩ := own_form hown4
              subst hv4
              have hS4 : Hid (Stk w.heap.size w4 g4 (m2 + 1) cap4 (L2 ++ [⟨.int .u8 k9, .string s9, .slice a9 l9 p9, hs j, szs j⟩])) := ⟨by have := hS3.out.1; simp [this], by rw [cellsE_append]; exact hown4⟩
              have hg4 : g4 ≠ wo.heap.size := by
                simp only [Value.ownBlock, Option.some.injEq] at hat4
                omega
              have hz4 : wo.heap.size < w4.heap.size := by have := hgrow4.size; rw [size_new] at this; omega
              have hX4 : Hid (w4.heap[wo.heap.size]? = some (.cells #[.int .u8 k, .string s, .slice (some ⟨b, off, none⟩) len kcap] 24 (0, 0))) := by
                show _ = _
                rw [hgrow4.block _ (by rw [size_new]; omega) (by simp only [Value.ownBlock, ne_eq, Option.some.injEq]; omega), Below.heap_alloc _ _ _ hz3]
                exact hX3.out
              have hB4 : Below w.heap.size w w4 := (hB3.alloc hB3.size _).grown hgrow4 (size_le_new hB3.size _) (fun x hx => by simp only [Value.ownBlock, Option.some.injEq] at hx; omega)
              have hN4 : Hid (NodesE ok (n' + 1) w (L2 ++ [⟨.int .u8 k9, .string s9, .slice a9 l9 p9, hs j, szs j⟩])) := fun x hx => by
                rcases List.mem_append.1 hx with h1 | h1
                · exact HN2.out x h1
                · simp at h1; subst h1; exact nodeIn_succ n' HKID.out
              clear hown4 hgrow4 hnn4 hat4 hS3 hX3 y2 e0 e1 e2 hB3
              go_wp2_with fail
              go_roundw
              case rel => exact ⟨j + 1, g4, m2 + 1, cap4, _, by omega, by go_num, rfl, hS4, hN4, by show _ = _; rw [anyE_append, HA2.out, anyTo, HWK.out]; simp [anyE, Bool.or_assoc], by show _ ≤ _; have := HT2.out; rw [sumTo, totE_append]; simp only [totE]; omega, hX4, hg4, hz4, hB4⟩
              case measure => simp [intOf]; omega
          · have hjl : j = len := by omega
            go_wp2_with fail
            go_roundg (totE L2)
            case measure => have h1 := HT2.out; have h2 := HTOT.out; have h3 := HTO.out; rw [hjl] at h1; omega
            case rel => exact ⟨g2, m2, cap2, L2, rfl, HS2, HN2, by show _ = _; rw [HA2.out, hjl, ← HAN.out, anyE_append, anyE, anyE, HH.out, hasOf, HAG.out]; simp, rfl, by have h1 := HT2.out; have h2 := HTOT.out; have h3 := HTO.out; rw [hjl] at h1; omega, hb2⟩

end Go.Proofs.Qxb6614851a.Agg
