/-
  'toZZ' (8): a copy of the node, in new memory.
-/
import Derived.Test.Qxb6614851aAggA
namespace Go.Proofs.Qxb6614851a.Agg
open Go.RowKit Go.Proofs.Qxb6614851a.Kit

theorem heap_setCells_ne (g : Nat) : ∀ (vs : List Value) (o : Nat) (w : World) (i : Nat), i ≠ g → (w.setCells g o vs).heap[i]? = w.heap[i]?
  | [], _, _, _, _ => rfl
  | v :: r, o, w, i, h => by
    rw [World.setCells, heap_setCells_ne g r (o + 1) _ i h]
    exact Below.heap_setCell w ⟨g, o, none⟩ v i h

/-- The first j elements of the row at g, of three cells each, are nodes. -/
def KidsAt (ok : Nat → Prop) (n : Nat) (w : World) (g j : Nat) (hs : Nat → Bool) (szs : Nat → Nat) : Prop :=
  ∀ t, t < j → ∃ c0 c1 c2, w.rangeAt g (t * 3) [c0, c1, c2] ∧ NodeIn ok n w (.agg #[c0, c1, c2]) (hs t) (szs t)

theorem kidsAt_kept {ok : Nat → Prop} {n : Nat} {w w' : World} {g j : Nat} {hs : Nat → Bool} {szs : Nat → Nat} (h : KidsAt ok n w g j hs szs) (hb : Below w.heap.size w w') : KidsAt ok n w' g j hs szs := fun t ht => by
  obtain ⟨c0, c1, c2, hr, hn⟩ := h t ht
  exact ⟨c0, c1, c2, range_kept hr hb, nodeIn_kept n hn hb⟩

theorem there_kept {w w' : World} {g o n : Nat} (h : w.there g o n) (hg : g < w.heap.size) (hb : Below w.heap.size w w') : w'.there g o n := fun j hj => by
  rw [hb.cell (p := ⟨g, o + j, none⟩) hg, hb.frozen (p := ⟨g, o + j, none⟩) hg]
  exact h j hj

theorem there_part {w : World} {g n : Nat} (h : w.there g 0 n) (o m : Nat) (hm : o + m ≤ n) : w.there g o m := fun j hj => by
  have := h (o + j) (by omega)
  simpa using this

/-- One element more is stored. -/
theorem kidsAt_store {ok : Nat → Prop} {n : Nat} {w : World} {g j : Nat} {hs : Nat → Bool} {szs : Nat → Nat} (h : KidsAt ok n w g j hs szs) (hg : ¬ ok g) {c0 c1 c2 : Value} (ht : w.there g (j * 3) 3) (hn : NodeIn ok n w (.agg #[c0, c1, c2]) (hs j) (szs j)) :
    KidsAt ok n (w.setCells g (j * 3) [c0, c1, c2]) g (j + 1) hs szs := fun t ht' => by
  have hk : ∀ b, ok b → b < w.heap.size → (w.setCells g (j * 3) [c0, c1, c2]).heap[b]? = w.heap[b]? := fun b hb _ => heap_setCells_ne g _ _ _ b (fun e => hg (e ▸ hb))
  by_cases e : t = j
  · subst e
    exact ⟨c0, c1, c2, World.rangeAt_setCells_same w g (t * 3) [c0, c1, c2] ht, nodeIn_keep n hn hk⟩
  · obtain ⟨d0, d1, d2, hr, hn'⟩ := h t (by omega)
    exact ⟨d0, d1, d2, World.rangeAt_setCells_apart hr g (j * 3) [c0, c1, c2] (.inr (by simp; omega)), nodeIn_keep n hn' hk⟩

theorem kidsAt_keep {ok ok' : Nat → Prop} {n : Nat} {w w' : World} {g j : Nat} {hs : Nat → Bool} {szs : Nat → Nat} (h : KidsAt ok n w g j hs szs) (hg : w'.heap[g]? = w.heap[g]?) (hk : ∀ b, ok b → w'.heap[b]? = w.heap[b]?) (hm : ∀ b, ok b → ok' b) : KidsAt ok' n w' g j hs szs := fun t ht => by
  obtain ⟨c0, c1, c2, hr, hn⟩ := h t ht
  exact ⟨c0, c1, c2, (fun i v hv => by rw [World.cell?_of_block (a := ⟨g, _, none⟩) hg]; exact hr i v hv), nodeIn_mono n (nodeIn_keep n hn (fun b hb _ => hk b hb)) (fun b hb _ => hm b hb)⟩

theorem heap_three (w : World) (g : Nat) (x y z : Value) (b : Nat) (hb : b ≠ g) : (((w.setCell ⟨g, 0, none⟩ x).setCell ⟨g, 1, none⟩ y).setCell ⟨g, 2, none⟩ z).heap[b]? = w.heap[b]? := by
  rw [Below.heap_setCell _ _ _ _ hb, Below.heap_setCell _ _ _ _ hb, Below.heap_setCell _ _ _ _ hb]

/-- A node out of a row of kids. -/
theorem node_of_kids {ok : Nat → Prop} {n : Nat} {w : World} {g len cap : Nat} {hs : Nat → Bool} {szs : Nat → Nat} (h : KidsAt ok n w g len hs szs) (hok : ok g) (k : Int) (s : ByteArray) (hl : len ≤ 9223372036854775807) :
    NodeIn ok (n + 1) w (.agg #[.int .u8 k, .string s, .slice (some ⟨g, 0, none⟩) len cap]) (hasOf k s len hs) (40 + s.size + sumTo len szs) :=
  ⟨k, s, some ⟨g, 0, none⟩, len, cap, hs, szs, rfl, hl, fun i hi => by
    obtain ⟨c0, c1, c2, hr, hn⟩ := h i hi
    exact ⟨g, 0, c0, c1, c2, rfl, hok, by simpa using hr, hn⟩, rfl, rfl⟩

theorem node_shape {ok : Nat → Prop} : ∀ {n : Nat} {w : World} {v : Value} {h : Bool} {sz : Nat}, NodeIn ok n w v h sz → ∃ k s a len cap, v = .agg #[.int .u8 k, .string s, .slice a len cap]
  | 0, _, _, _, _, hn => hn.elim
  | n + 1, w, v, h, sz, hn => by
    obtain ⟨k, s, a, len, cap, hs, szs, hv, _⟩ := hn
    exact ⟨k, s, a, len, cap, hv⟩

theorem three_one (k : Int) (s : ByteArray) (a : Option Addr) (l c : Nat) : (#[.int .u8 k, .string s, .slice a l c] : Array Value).all (·.oneCell') = true := by simp [Value.oneCell']

theorem info29 : (Try.prog.info? 29).map (fun i => (i.zero, i.size, i.bytes)) = some (some (.agg #[.int .u8 0, .string ByteArray.empty, .slice none 0 0]), 3, 48) := by kernel_rfl

theorem there_made {w : World} {g n : Nat} {z : Array Value} {e : TypeId} (h : w.heap[g]? = some (.cells (madeCells z n) e (0, 0))) : w.there g 0 n := fun j hj => by
  rw [cell_of_row _ _ _ _ _ _ h]
  refine ⟨?_, frozen_of_row _ _ _ _ _ h⟩
  simp [madeCells, hj]

set_option maxHeartbeats 1000000 in
/-- 'toZZ': the same node in new memory. -/
theorem f8_any (n : Nat) : ∀ (ok : Nat → Prop) (v : Value) (h : Bool) (sz : Nat) (w : World), NodeIn ok n w v h sz → sz ≤ 1048576 →
    Calls Try.prog 8 #[v] w fun e w' => ∃ v', e = .returned v' ∧ NodeIn (fun b => w.heap.size ≤ b) n w' v' h sz ∧ Below w.heap.size w w' := by
  induction n with
  | zero => intro ok v h sz w hn; exact hn.elim
  | succ n ih =>
    have IH := hide ih
    clear ih
    intro ok v h sz w hn h0
    obtain ⟨k, s, a, len, cap, hs, szs, rfl, hl, hk, hh, hsz⟩ := hn
    have hge : 40 * len ≤ sumTo len szs := sumTo_ge (fun i hi => by obtain ⟨_, _, _, _, _, _, _, _, hkid⟩ := hk i hi; exact nodeIn_size hkid)
    have hlen : len ≤ 26214 := by omega
    have HK := hide hk
    have HSZ := hide hsz
    have HH := hide hh
    clear hk hh hsz hge
    by_cases hz : len = 0
    · subst hz
      go_enter Try.func8, Try.ntmps8
      go_wp2_with fail
      refine bodyPost_ret (v := .agg #[.int .u8 k, .string s, .slice none 0 0]) (by simp [results, Try.results8, go_sem]) rfl ⟨_, rfl, ?_, ?_⟩
      · refine ⟨k, s, none, 0, 0, hs, szs, rfl, by omega, fun i hi => absurd hi (Nat.not_lt_zero _), HH.out, HSZ.out⟩
      · exact ((Below.refl _ w).alloc (Nat.le_refl _) _).alloc (by simp) _
    have hpos : 0 < len := by omega
    go_enter Try.func8, Try.ntmps8
    go_wp2_with (at_make; refine wpList_make_row _ rfl (.tmp 11) (.tmp 11) 27 rfl 29 _ 3 48 Try.underlying27 info29 _ _ _ _ len rfl rfl rfl rfl (by omega) (by omega) ?_)
    intro w1 hrow hb1 hz1
    obtain ⟨W0, hW0⟩ : ∃ W0, W0 = (w.alloc (.cells #[.int .u8 k, .string s, .slice a len cap] 24)).alloc (.cells #[.int .u8 0, .string ⟨#[]⟩, .slice none 0 0] 29) := ⟨_, rfl⟩
    have hb1' : Below W0.heap.size W0 w1 := by rw [hW0]; exact hb1.mono (by rw [size_new, size_new]; exact Nat.le_refl _)
    have hB0 : Below w.heap.size w W0 := by rw [hW0]; exact ((Below.refl _ _).alloc (Nat.le_refl _) _).alloc (by rw [size_new]; omega) _
    have hbx : Hid (W0.heap[w.heap.size]? = some (.cells #[.int .u8 k, .string s, .slice a len cap] 24 (0, 0))) := by rw [hW0]; exact heap_alloc2_old w _ _
    have hrs : Hid (W0.heap[w.heap.size + 1]? = some (.cells #[.int .u8 0, .string ⟨#[]⟩, .slice none 0 0] 29 (0, 0))) := by rw [hW0]; exact heap_alloc2_new w _ _
    have hzW : W0.heap.size = w.heap.size + 2 := by rw [hW0, size_new, size_new]
    have HT : Hid (w1.there (w.heap.size + 2) 0 (len * 3)) := there_made hrow.out
    clear hW0 hrow hb1
    go_wp2_with fail
    go_loopw [4] (fun i wr => ∃ j : Nat, j ≤ len ∧ i = .int .i64 j ∧ Hid (KidsAt (fun b => w.heap.size + 2 < b) n wr (w.heap.size + 2) j hs szs) ∧ Hid (wr.there (w.heap.size + 2) 0 (len * 3)) ∧ w.heap.size + 2 < wr.heap.size ∧ Below W0.heap.size W0 wr) (fun i _ => len - (intOf i).toNat)
    case atStart => exact ⟨0, Nat.zero_le _, rfl, (fun t ht => absurd ht (Nat.not_lt_zero _)), HT, by omega, hb1'⟩
    case round =>
      obtain ⟨j, hj, rfl, HKA, HTH, hzr, hbr⟩ := hrel
      clear HT hb1' hz1
      have hbw : Below w.heap.size w wr := hB0.trans (hbr.mono hB0.size)
      have d0 : wr.cell? ⟨w.heap.size, 0, none⟩ = some (.int .u8 k) := by
        rw [hbr.cell (p := ⟨w.heap.size, 0, none⟩) (by show w.heap.size < _; omega), cell_of_row _ _ _ _ _ _ hbx.out]; rfl
      have d1 : wr.cell? ⟨w.heap.size, 1, none⟩ = some (.string s) := by
        rw [hbr.cell (p := ⟨w.heap.size, 1, none⟩) (by show w.heap.size < _; omega), cell_of_row _ _ _ _ _ _ hbx.out]; rfl
      have d2 : wr.cell? ⟨w.heap.size, 2, none⟩ = some (.slice a len cap) := by
        rw [hbr.cell (p := ⟨w.heap.size, 2, none⟩) (by show w.heap.size < _; omega), cell_of_row _ _ _ _ _ _ hbx.out]; rfl
      by_cases hlt : j < len
      · obtain ⟨b, off, x0, x1, x2, rfl, _, hr, hkid⟩ := HK.out j hlt
        obtain ⟨e0, e1, e2⟩ := cells3 (range_kept hr hbw)
        have HKID := hide (nodeIn_kept n hkid hbw)
        have hszj : szs j ≤ 1048576 := by have := sumTo_le (f := szs) hlt; have := HSZ.out; omega
        clear hr hkid d0 d1
        go_wp2_with fail
        refine (IH.out _ _ _ _ _ HKID.out hszj).mono ?_
        rintro e w2 ⟨v2, rfl, hn2, hb2⟩
        obtain ⟨k2, s2, a2, l2, c2, hv2⟩ := node_shape hn2
        subst hv2
        have HN2 := hide hn2
        have ht2 : Hid (w2.there (w.heap.size + 2) 0 (len * 3)) := there_kept HTH.out hzr hb2
        have hka2 : Hid (KidsAt (fun b => w.heap.size + 2 < b) n w2 (w.heap.size + 2) j hs szs) := kidsAt_kept HKA.out hb2
        have hb3 : Below W0.heap.size W0 w2 := hbr.trans (hb2.mono hbr.size)
        have hz2 : w.heap.size + 2 < w2.heap.size := by have := hb2.size; omega
        clear hn2 HKA HTH HKID e0 e1 e2 d2
        go_wp2_with (refine wpList_store_mid rfl 29 (.tmp 28) (.tmp 27) rfl (w.heap.size + 1 + 1) (j * 3) #[.int .u8 k2, .string s2, .slice a2 l2 c2] rfl rfl (there_part ht2.out (j * 3) 3 (by omega)) (by kernel_rfl) (three_one _ _ _ _ _) ?_)
        go_roundw
        case rel => exact ⟨j + 1, by omega, by go_num, kidsAt_store hka2.out (Nat.lt_irrefl _) (there_part ht2.out (j * 3) 3 (by omega)) (nodeIn_mono n HN2.out (fun b hb _ => by omega)), World.there_setCells ht2.out _ _ _, by rw [size_setCells]; exact hz2, hb3.trans ((below_setCells _ _ _ _).mono (by omega))⟩
        case measure => simp [intOf]; omega
      · have p0 : wr.cell? ⟨w.heap.size + 1, 0, none⟩ = some (.int .u8 0) := by
          rw [hbr.cell (p := ⟨w.heap.size + 1, 0, none⟩) (by show w.heap.size + 1 < _; omega), cell_of_row _ _ _ _ _ _ hrs.out]; rfl
        have p1 : wr.cell? ⟨w.heap.size + 1, 1, none⟩ = some (.string ⟨#[]⟩) := by
          rw [hbr.cell (p := ⟨w.heap.size + 1, 1, none⟩) (by show w.heap.size + 1 < _; omega), cell_of_row _ _ _ _ _ _ hrs.out]; rfl
        have p2 : wr.cell? ⟨w.heap.size + 1, 2, none⟩ = some (.slice none 0 0) := by
          rw [hbr.cell (p := ⟨w.heap.size + 1, 2, none⟩) (by show w.heap.size + 1 < _; omega), cell_of_row _ _ _ _ _ _ hrs.out]; rfl
        have p3 : ∀ o, wr.frozen? ⟨w.heap.size + 1, o, none⟩ = false := fun o => by
          rw [hbr.frozen (p := ⟨w.heap.size + 1, o, none⟩) (by show w.heap.size + 1 < _; omega)]; exact frozen_of_row _ _ _ _ _ hrs.out
        go_wp2_with fail
        have hjl : j = len := by omega
        refine bodyPost_ret (v := .agg #[.int .u8 k, .string s, .slice (some ⟨w.heap.size + 1 + 1, 0, none⟩) len len]) (by simp [results, Try.results8, go_sem, p0, p1, p2]) rfl ⟨_, rfl, ?_, ((hbw.setCell (by show _ ≤ w.heap.size + 1; omega) _).setCell (by show _ ≤ w.heap.size + 1; omega) _).setCell (by show _ ≤ w.heap.size + 1; omega) _⟩
        have hka := HKA.out
        rw [hjl] at hka
        rw [HH.out, HSZ.out]
        refine node_of_kids (g := w.heap.size + 1 + 1) (kidsAt_keep hka ?_ (fun b hb => ?_) (fun b hb => ?_)) (by omega) k s hl
        · exact heap_three wr _ _ _ _ _ (by omega)
        · exact heap_three wr _ _ _ _ _ (by omega)
        · omega

end Go.Proofs.Qxb6614851a.Agg
