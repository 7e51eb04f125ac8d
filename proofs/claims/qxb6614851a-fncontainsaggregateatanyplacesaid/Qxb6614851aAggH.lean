/-
  'FnContainsAggregateAtAnyPlace' (4): the law's own body.
-/
import Derived.Test.Qxb6614851aAggF
import Derived.Test.Qxb6614851aAggG
namespace Go.Proofs.Qxb6614851a.Agg
open Go.RowKit Go.Proofs.Qxb6614851a.Kit

theorem any_true {w : World} {n : Nat} {v : Value} {h : Bool} {sz : Nat} {ok : Nat → Prop} (hn : NodeIn ok n w v h sz) : NodeIn (fun _ => True) n w v h sz := nodeIn_mono n hn (fun _ _ _ => trivial)
theorem leaf_node (k : Int) (s : ByteArray) (w : World) : NodeIn (fun _ => True) 1 w (.agg #[.int .u8 k, .string s, .slice none 0 0]) (k == 1 && aggName s) (40 + s.size) :=
  ⟨k, s, none, 0, 0, fun _ => false, fun _ => 0, rfl, by omega, fun i hi => absurd hi (Nat.not_lt_zero _), by simp [hasOf, anyTo], by simp [sumTo]⟩

theorem leaf_call (s : ByteArray) (w : World) : NodeIn (fun _ => True) 1 w (.agg #[.int .u8 1, .string s, .slice none 0 0]) (aggName s) (40 + s.size) := leaf_node 1 s w

set_option maxHeartbeats 4000000 in
theorem f4_any (n m : Nat) (t sv : Value) (ht hv : Bool) (szt szv : Nat) (pa : Option Addr) (plen pcap : Nat) (ps : List Int) (name : ByteArray) (w : World) (hnt : NodeIn (fun _ => True) n w t ht szt) (hns : NodeIn (fun _ => True) m w sv hv szv)
    (hps : ps.length = plen) (hpc : plen ≤ pcap) (hin : InInts w pa ps) :
    Calls Try.prog 4 #[t, .slice pa plen pcap, sv, .string name] w fun e w' => e = .returned (.bool true) ∧ Below w.heap.size w w' := by
  obtain ⟨k, s, a, len, cap, rfl⟩ := node_shape hnt
  obtain ⟨k2, s2, a2, len2, cap2, rfl⟩ := node_shape hns
  have HNT := hide hnt
  have HNS := hide hns
  have HIN := hide hin
  have HPS := hide hps
  clear hnt hns hin hps
  obtain ⟨W0, hW0⟩ : ∃ W0, W0 = (w.alloc (.cells #[.int .u8 k, .string s, .slice a len cap] 24)).alloc (.cells #[.int .u8 k2, .string s2, .slice a2 len2 cap2] 24) := ⟨_, rfl⟩
  have hB0 : Below w.heap.size w W0 := by rw [hW0]; exact ((Below.refl _ _).alloc (Nat.le_refl _) _).alloc (by rw [size_new]; omega) _
  have A0 : Hid (Blk W0 w.heap.size (.int .u8 k) (.string s) (.slice a len cap)) := by rw [hW0]; exact heap_alloc2_old w _ _
  have A1 : Hid (Blk W0 (w.heap.size + 1) (.int .u8 k2) (.string s2) (.slice a2 len2 cap2)) := by rw [hW0]; exact heap_alloc2_new w _ _
  have hz0 : W0.heap.size = w.heap.size + 2 := by rw [hW0, size_new, size_new]
  by_cases hp1 : 65536 < plen
  · go_enter Try.func4, Try.ntmps4
    go_wp2_with fail
    go_ret
    exact ⟨rfl, by rw [← hW0]; exact hB0⟩
  by_cases hp2 : 65536 < name.size
  · go_enter Try.func4, Try.ntmps4
    go_wp2_with fail
    go_ret
    exact ⟨rfl, by rw [← hW0]; exact hB0⟩
  go_enter Try.func4, Try.ntmps4
  go_wp2_with fail
  rw [← hW0]
  clear hW0
  have D0 : Below W0.heap.size W0 W0 := Below.refl _ _
  refine (f6_any n _ _ _ (8 * plen + name.size) _ (nodeIn_kept n HNT.out hB0) (by omega)).mono ?_
  rintro e w1 ⟨r1, rfl, hr1, hb1⟩
  have HR1 := hide hr1
  clear hr1
  have D1 : Below W0.heap.size W0 w1 := D0.trans (hb1.mono D0.size)
  have E1 : Below w.heap.size w w1 := hB0.trans (D1.mono hB0.size)
  by_cases hbig1 : 1048576 < r1
  · go_wp2_with fail
    go_ret
    exact ⟨rfl, E1⟩
  have hq1 : r1 = 8 * plen + name.size + szt := HR1.out (by omega)
  have HQ1 := hide hq1
  have h01 : 0 ≤ r1 := by omega
  clear hq1
  obtain ⟨x10, x11, x12⟩ := blk_cells (blk_kept A0.out D1 (by omega))
  obtain ⟨y10, y11, y12⟩ := blk_cells (blk_kept A1.out D1 (by omega))
  go_wp2_with fail
  refine (f6_any m _ _ _ r1 _ (nodeIn_kept m HNS.out E1) h01).mono ?_
  rintro e w2 ⟨r2, rfl, hr2, hb2⟩
  have HR2 := hide hr2
  clear hr2
  clear x10 x11 x12 y10 y11 y12
  have D2 : Below W0.heap.size W0 w2 := D1.trans (hb2.mono D1.size)
  have E2 : Below w.heap.size w w2 := hB0.trans (D2.mono hB0.size)
  by_cases hbig2 : 1048576 < r2
  · go_wp2_with fail
    go_ret
    exact ⟨rfl, E2⟩
  have hsz : 8 * plen + name.size + szt + szv ≤ 1048576 := by have h1 := HR2.out (by omega); have h2 := HQ1.out; omega
  have hsz40 : 40 ≤ szv := nodeIn_size HNS.out
  obtain ⟨c, hc⟩ := f10_any n _ pa plen pcap ps ht szt w HNT.out (by omega) HPS.out hpc HIN.out
  have HC := hide hc
  clear hc HR1 HR2 HQ1 h01
  obtain ⟨x20, x21, x22⟩ := blk_cells (blk_kept A0.out D2 (by omega))
  obtain ⟨y20, y21, y22⟩ := blk_cells (blk_kept A1.out D2 (by omega))
  go_wp2_with fail
  refine (HC.out (fun _ => True) m (.agg #[.int .u8 k2, .string s2, .slice a2 len2 cap2]) hv szv _ E2 (fun _ _ => trivial) (fun _ _ => trivial) (nodeIn_kept m HNS.out E2)).mono ?_
  rintro e w3 ⟨v3, sz3, rfl, hn3, hs3, hb3⟩
  clear x20 x21 x22 y20 y21 y22
  have D3 : Below W0.heap.size W0 w3 := D2.trans (hb3.mono D2.size)
  have E3 : Below w.heap.size w w3 := hB0.trans (D3.mono hB0.size)
  have HN3 := hide hn3
  clear hn3
  go_wp2_with fail
  refine (f8_any _ _ _ _ _ _ HN3.out (by omega)).mono ?_
  rintro e w4 ⟨v4, rfl, hn4, hb4⟩
  have D4 : Below W0.heap.size W0 w4 := D3.trans (hb4.mono D3.size)
  have E4 : Below w.heap.size w w4 := hB0.trans (D4.mono hB0.size)
  have HN4 := hide hn4
  clear hn4 HN3
  go_wp2_with fail
  refine (f7_any _ _ _ _ _ HN4.out (by omega)).mono ?_
  rintro e w5 ⟨rfl, hb5⟩
  have D5 : Below W0.heap.size W0 w5 := D4.trans (hb5.mono D4.size)
  have E5 : Below w.heap.size w w5 := hB0.trans (D5.mono hB0.size)
  clear HN4 hb3 hb4 hb5 D3 D4 E3 E4
  obtain ⟨x50, x51, x52⟩ := blk_cells (blk_kept A0.out D5 (by omega))
  obtain ⟨y50, y51, y52⟩ := blk_cells (blk_kept A1.out D5 (by omega))
  go_wp2_with fail
  refine (HC.out (fun _ => True) 1 (.agg #[.int .u8 5, .string ⟨#[]⟩, .slice none 0 0]) false 40 _ E5 (fun _ _ => trivial) (fun _ _ => trivial) (leaf_node 5 ⟨#[]⟩ _)).mono ?_
  rintro e w6 ⟨v6, sz6, rfl, hn6, hs6, hb6⟩
  clear x50 x51 x52 y50 y51 y52
  have D6 : Below W0.heap.size W0 w6 := D5.trans (hb6.mono D5.size)
  have E6 : Below w.heap.size w w6 := hB0.trans (D6.mono hB0.size)
  have HN6 := hide hn6
  clear hn6
  go_wp2_with fail
  refine (f8_any _ _ _ _ _ _ HN6.out (by omega)).mono ?_
  rintro e w7 ⟨v7, rfl, hn7, hb7⟩
  have D7 : Below W0.heap.size W0 w7 := D6.trans (hb7.mono D6.size)
  have E7 : Below w.heap.size w w7 := hB0.trans (D7.mono hB0.size)
  have HN7 := hide hn7
  clear hn7 HN6
  go_wp2_with fail
  refine (f7_any _ _ _ _ _ HN7.out (by omega)).mono ?_
  rintro e w8 ⟨rfl, hb8⟩
  have D8 : Below W0.heap.size W0 w8 := D7.trans (hb8.mono D7.size)
  have E8 : Below w.heap.size w w8 := hB0.trans (D8.mono hB0.size)
  clear HN7 hb6 hb7 hb8 D6 D7 E6 E7
  obtain ⟨x80, x81, x82⟩ := blk_cells (blk_kept A0.out D8 (by omega))
  obtain ⟨y80, y81, y82⟩ := blk_cells (blk_kept A1.out D8 (by omega))
  go_wp2_with fail
  refine (HC.out (fun _ => True) 1 (.agg #[.int .u8 1, .string name, .slice none 0 0]) (aggName name) (40 + name.size) _ E8 (fun _ _ => trivial) (fun _ _ => trivial) (leaf_call name _)).mono ?_
  rintro e w9 ⟨v9, sz9, rfl, hn9, hs9, hb9⟩
  clear x80 x81 x82 y80 y81 y82
  have D9 : Below W0.heap.size W0 w9 := D8.trans (hb9.mono D8.size)
  have E9 : Below w.heap.size w w9 := hB0.trans (D9.mono hB0.size)
  have HN9 := hide hn9
  clear hn9
  go_wp2_with fail
  refine (f8_any _ _ _ _ _ _ HN9.out (by omega)).mono ?_
  rintro e w10 ⟨v10, rfl, hn10, hb10⟩
  have D10 : Below W0.heap.size W0 w10 := D9.trans (hb10.mono D9.size)
  have E10 : Below w.heap.size w w10 := hB0.trans (D10.mono hB0.size)
  have HN10 := hide hn10
  clear hn10 HN9
  go_wp2_with fail
  refine (f7_any _ _ _ _ _ HN10.out (by omega)).mono ?_
  rintro e w11 ⟨rfl, hb11⟩
  have D11 : Below W0.heap.size W0 w11 := D10.trans (hb11.mono D10.size)
  have E11 : Below w.heap.size w w11 := hB0.trans (D11.mono hB0.size)
  clear HN10 hb9 hb10 hb11 D9 D10 E9 E10
  obtain ⟨x110, x111, x112⟩ := blk_cells (blk_kept A0.out D11 (by omega))
  obtain ⟨y110, y111, y112⟩ := blk_cells (blk_kept A1.out D11 (by omega))
  go_wp2_with fail
  refine (f8_any m _ _ _ _ _ (nodeIn_kept m HNS.out E11) (by omega)).mono ?_
  rintro e w12 ⟨v12, rfl, hn12, hb12⟩
  clear x110 x111 x112 y110 y111 y112
  have D12 : Below W0.heap.size W0 w12 := D11.trans (hb12.mono D11.size)
  have E12 : Below w.heap.size w w12 := hB0.trans (D12.mono hB0.size)
  have HN12 := hide hn12
  clear hn12
  go_wp2_with fail
  refine (f7_any _ _ _ _ _ HN12.out (by omega)).mono ?_
  rintro e w13 ⟨rfl, hb13⟩
  have D13 : Below W0.heap.size W0 w13 := D12.trans (hb13.mono D12.size)
  have E13 : Below w.heap.size w w13 := hB0.trans (D13.mono hB0.size)
  clear HN12 hb12 hb13 D12 E12
  cases c with
  | true =>
    go_wp2_with fail
    go_ret
    exact ⟨rfl, E13⟩
  | false =>
    clear HNT HNS HC
    generalize hag : aggName name = ag
    have HAG := hide hag
    clear hag
    cases hv with
    | true =>
      go_wp2_with fail
      refine (f11_any name _).mono ?_
      rintro e w14 ⟨rfl, rfl⟩
      rw [HAG.out]
      cases ag with
      | true =>
        go_wp2_with fail
        go_ret
        exact ⟨rfl, E13⟩
      | false =>
        go_wp2_with fail
        go_ret
        exact ⟨rfl, E13⟩
    | false =>
      go_wp2_with fail
      refine (f11_any name _).mono ?_
      rintro e w14 ⟨rfl, rfl⟩
      rw [HAG.out]
      cases ag with
      | true =>
        go_wp2_with fail
        go_ret
        exact ⟨rfl, E13⟩
      | false =>
        go_wp2_with fail
        go_ret
        exact ⟨rfl, E13⟩

end Go.Proofs.Qxb6614851a.Agg
