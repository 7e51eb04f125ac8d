/-
  'FnContainsAggregateFindsAnyAggregateCall' (3): the law's own body.
-/
import Derived.Test.Qxb6614851aAggE
import Derived.ProofKit
import Derived.OpenShut
import Derived.ShutString
import Derived.ChangeOld
import Derived.Lib.SmallJoins
namespace Go.Proofs.Qxb6614851a.Agg
open Go.RowKit Go.Proofs.Qxb6614851a.Kit

set_option maxHeartbeats 1000000 in
theorem f3_any {ok : Nat → Prop} (n : Nat) (v : Value) (h : Bool) (sz : Nat) (w : World) (hn : NodeIn ok n w v h sz) :
    Calls Try.prog 3 #[v] w fun e w' => e = .returned (.bool true) ∧ Below w.heap.size w w' := by
  obtain ⟨k, s, a, len, cap, rfl⟩ := node_shape hn
  have hb0 : Below w.heap.size w (w.alloc (.cells #[.int .u8 k, .string s, .slice a len cap] 24)) := (Below.refl _ _).alloc (Nat.le_refl _) _
  have HN := hide (nodeIn_kept n hn hb0)
  clear hn
  go_enter Try.func3, Try.ntmps3
  go_wp2_with fail
  refine (f6_any n _ _ _ 0 _ HN.out (by omega)).mono ?_
  rintro e w1 ⟨r, rfl, hr, hb1⟩
  have hB1 : Below w.heap.size w w1 := hb0.trans (hb1.mono hb0.size)
  have HR := hide hr
  clear hr
  by_cases hbig : 1048576 < r
  · go_wp2_with fail
    go_ret
    exact ⟨rfl, hB1⟩
  have hsz : sz ≤ 1048576 := by have := HR.out (by omega); omega
  have HN1 := hide (nodeIn_kept n HN.out hb1)
  obtain ⟨d0, d1, d2⟩ : w1.cell? ⟨w.heap.size, 0, none⟩ = some (.int .u8 k) ∧ w1.cell? ⟨w.heap.size, 1, none⟩ = some (.string s) ∧ w1.cell? ⟨w.heap.size, 2, none⟩ = some (.slice a len cap) := cells_kept3b hb1 (cell_new _ _ _ 0) (cell_new _ _ _ 1) (cell_new _ _ _ 2)
  clear HR HN hb1
  go_wp2_with fail
  go_region_held3 (fun w' => w'.cell? ⟨w.heap.size, 0, none⟩ = some (.int .u8 k) ∧ w'.cell? ⟨w.heap.size, 1, none⟩ = some (.string s) ∧ w'.cell? ⟨w.heap.size, 2, none⟩ = some (.slice a len cap)) (first | go_keep | exact ⟨m0, m1, m2⟩ | exact ⟨l0, l1, l2⟩ | exact ⟨j0, j1, j2⟩)
    (first
      | (go_at_call 8; refine (f8_any n ok _ h sz _ ?_ hsz).mono ?_; exact nodeIn_kept n HN1.out ((Below.refl _ _).drew); rintro e w2 ⟨v2, rfl, hn2, hb2⟩; have HN2 := hide hn2; clear hn2; obtain ⟨m0, m1, m2⟩ := cells_kept3 hb2 d0 d1 d2)
      | (go_at_call 7; refine (f7_any n _ h sz _ HN2.out hsz).mono ?_; rintro e w3 ⟨rfl, hb3⟩; obtain ⟨l0, l1, l2⟩ := cells_kept3b hb3 m0 m1 m2)
      | (go_at_call 9; refine (f9_any (ok := ok) n _ h sz _ ?_ hsz).mono ?_; exact nodeIn_kept n (nodeIn_kept n (nodeIn_kept n HN1.out ((Below.refl _ _).drew)) hb2) hb3; rintro e w4 ⟨rfl, hb4⟩; obtain ⟨j0, j1, j2⟩ := cells_kept3b hb4 l0 l1 l2))
  go_wp2_with fail
  go_ret
  refine ⟨rfl, ?_⟩
  have hB2 : Below w.heap.size w w2 := (hB1.drew).trans (hb2.mono hB1.size)
  have hB3 : Below w.heap.size w w3 := hB2.trans (hb3.mono hB2.size)
  exact hB3.trans (hb4.mono hB3.size)

/-! ### The argument, opened -/
section
open Go.ChangeShapes Go.WideShapes Go.ChangeAt
variable {H : Type} {enc : TypeId × Value → H}

theorem cells24 : Try.prog.cellsOf 24 = 3 := by kernel_rfl
theorem cells5 : Try.prog.cellsOf 5 = 1 := by kernel_rfl
theorem cells9 : Try.prog.cellsOf 9 = 1 := by kernel_rfl
theorem cells22 : Try.prog.cellsOf 22 = 1 := by kernel_rfl

theorem cells_three {w : World} {base : Nat} {a : Addr} {cs : List Value} (h : w.cells? base a 3 = some cs) : ∃ c0 c1 c2, cs = [c0, c1, c2] ∧ w.cell? (a.add 0) = some c0 ∧ w.cell? (a.add 1) = some c1 ∧ w.cell? (a.add 2) = some c2 := by
  unfold World.cells? at h
  split at h
  · simp only [List.range, List.range.loop, List.mapM_cons, List.mapM_nil, Option.bind_eq_bind, Option.bind_eq_some_iff, Option.pure_def, Option.some.injEq] at h
    obtain ⟨c0, h0, r0, ⟨c1, h1, r1, ⟨c2, h2, r2, hr2, hr1⟩, hr0⟩, hr⟩ := h
    subst hr2 hr1 hr0
    exact ⟨c0, c1, c2, hr.symm, h0, h1, h2⟩
  · cases h

theorem len_three {α : Type} {l : List α} (h : l.length = 3) : ∃ a b c, l = [a, b, c] := by
  match l, h with
  | [a, b, c], _ => exact ⟨a, b, c, rfl⟩

/-- What was read as a Node is a node in memory. -/
theorem node_read {W : World} : ∀ (N fuel : Nat) (cs : List Value) (x : DataW H × List MemPlace), fuel ≤ N → DataW.trod enc Try.prog W 0 (fun _ => true) true fuel 24 cs = some x →
    ∃ c0 c1 c2, cs = [c0, c1, c2] ∧ ∃ h sz, NodeIn (fun _ => True) (N + 1) W (.agg #[c0, c1, c2]) h sz
  | 0, fuel, cs, x, hN, h => by
    obtain ⟨xs, n, hf, _⟩ := DataW.trod_struct Try.underlying24 h
    omega
  | N + 1, fuel, cs, x, hN, h => by
    obtain ⟨xs, n, hf, _, hlen, hxl, hfs⟩ := DataW.trod_struct Try.underlying24 h
    rw [cells24] at hlen
    obtain ⟨c0, c1, c2, rfl⟩ := len_three hlen
    obtain ⟨y0, y1, y2, rfl⟩ := len_three (show xs.length = 3 from hxl)
    have f0 : DataW.trod enc Try.prog W 0 (fun _ => true) true n 5 (([c0, c1, c2].drop 0).take (Try.prog.cellsOf 5)) = some y0 := hfs 0 _ rfl
    have f1 : DataW.trod enc Try.prog W 0 (fun _ => true) true n 9 (([c0, c1, c2].drop 1).take (Try.prog.cellsOf 9)) = some y1 := hfs 1 _ rfl
    have f2 : DataW.trod enc Try.prog W 0 (fun _ => true) true n 22 (([c0, c1, c2].drop 2).take (Try.prog.cellsOf 22)) = some y2 := hfs 2 _ rfl
    rw [cells5] at f0
    rw [cells9] at f1
    rw [cells22] at f2
    simp only [List.drop_zero, List.drop_succ_cons, List.take_succ_cons, List.take_zero] at f0 f1 f2
    obtain ⟨k, e0, _, _⟩ := DataW.trod_int Try.underlying5 f0
    obtain ⟨s, e1, _, _⟩ := DataW.trod_string Try.underlying9 f1
    simp only [List.cons.injEq, and_true] at e0 e1
    subst e0 e1
    refine ⟨_, _, _, rfl, ?_⟩
    rcases DataW.trod_slice Try.underlying22 f2 with ⟨hcs, _⟩ | ⟨a, len, cap, elems, rest, n', hn', hcs, _, _, hlc, hm, hel, hkids, _, _⟩
    · simp only [List.cons.injEq, and_true] at hcs
      subst hcs
      exact ⟨_, _, k, s, none, 0, 0, fun _ => false, fun _ => 0, rfl, by omega, fun i hi => absurd hi (Nat.not_lt_zero _), rfl, rfl⟩
    · simp only [List.cons.injEq, and_true] at hcs
      subst hcs
      have each : ∀ i, ∃ q : (Value × Value × Value) × (Bool × Nat), i < len → (W.cell? ((a.add (i * 3)).add 0) = some q.1.1 ∧ W.cell? ((a.add (i * 3)).add 1) = some q.1.2.1 ∧ W.cell? ((a.add (i * 3)).add 2) = some q.1.2.2) ∧ NodeIn (fun _ => True) (N + 1) W (.agg #[q.1.1, q.1.2.1, q.1.2.2]) q.2.1 q.2.2 := fun i => by
        by_cases hi : i < len
        · have hk := hkids i hi
          rw [cells24, List.getElem?_eq_getElem (by omega), Option.bind_eq_some_iff] at hk
          obtain ⟨cs', hc', ht⟩ := hk
          obtain ⟨d0, d1, d2, rfl, g0, g1, g2⟩ := cells_three hc'
          obtain ⟨_, _, _, hd, h', sz', hnode⟩ := node_read N n' _ _ (by omega) ht
          simp only [List.cons.injEq, and_true] at hd
          obtain ⟨rfl, rfl, rfl⟩ := hd
          exact ⟨((d0, d1, d2), (h', sz')), fun _ => ⟨⟨g0, g1, g2⟩, hnode⟩⟩
        · exact ⟨((undef, undef, undef), (false, 0)), fun h => absurd h hi⟩
      obtain ⟨f, hf⟩ := Classical.skolem.1 each
      refine ⟨_, _, k, s, some a, len, cap, fun i => (f i).2.1, fun i => (f i).2.2, rfl, by unfold maxLen at hm; omega, fun i hi => ?_, rfl, rfl⟩
      obtain ⟨b, off, spot⟩ := a
      have hspot : spot = none := by
        have h0 := (hf 0 (by omega)).1.1
        have := World.cell?_spot h0
        simpa [Addr.add] using this
      subst hspot
      obtain ⟨⟨g0, g1, g2⟩, hnode⟩ := hf i hi
      simp only [Addr.add_mid] at g0 g1 g2
      refine ⟨b, off, (f i).1.1, (f i).1.2.1, (f i).1.2.2, rfl, trivial, fun j v hv => ?_, hnode⟩
      match j, hv with
      | 0, hv => simp at hv; subst hv; exact g0
      | 1, hv => simp at hv; subst hv; exact g1
      | 2, hv => simp at hv; subst hv; exact g2

theorem own : ownKnob Try.prog.godebug = none := by kernel_rfl
theorem laidOut : laidOutB Try.prog = true := by kernel_rfl

set_option maxRecDepth 100000 in
/-- An argument of type Node, by value. -/
theorem node_arg {W : World} {r : Reach} {b0 : Nat} {v : Value} {d : DataW H} {p : List MemPlace} (hv : Value.okWide Try.prog W r b0 24 v) (h : DataW.Trod enc Try.prog W 0 (fun _ => true) true 24 v d p) :
    ∃ n h sz, NodeIn (fun _ => True) n W v h sz := by
  obtain ⟨v0, v1, v2, y0, y1, y2, m, rfl, _⟩ := Joins.open_agg3 Try.underlying24 (by kernel_rfl) cells24 hv h
  obtain ⟨fuel, hf⟩ := h
  obtain ⟨c0, c1, c2, hcs, hh, sz, hn⟩ := node_read fuel fuel _ _ (Nat.le_refl _) hf
  simp [Value.cells] at hcs
  obtain ⟨rfl, rfl, rfl⟩ := hcs
  exact ⟨_, hh, sz, hn⟩
end

end Go.Proofs.Qxb6614851a.Agg
