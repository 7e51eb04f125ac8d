/-
  THE ROW 'Rows.FnContainsAggregateAtAnyPlaceSaid', out of the walk of function 4.
-/
import Derived.Test.Qxb6614851aAggH
namespace Go.Proofs.Qxb6614851a.Agg
open Go.ChangeShapes Go.WideShapes Go.ChangeAt Go.RowKit
open Go.ChangeMaps (open_string shut_string)

set_option maxRecDepth 100000 in
theorem place_lifted (os : Os) (started : os.Started) (H : Type) (enc : TypeId × Value → H) :
    ReturnsInHanded {} Try.checked os 4 .any (Rows.fnContainsAggregateAtAnyPlaceSpec.pre6 enc Try.prog Try.f4 Rows.fnContainsAggregateAtAnyPlaceRow.domain false) (Rows.fnContainsAggregateAtAnyPlaceSpec.post enc Try.prog Try.f4 false true false false) := by
  refine returnsInHanded_of_change (C := Try.checked) own started (by kernel_rfl) Try.func4
    (ChangeSpec.witness6 (enc := enc) (C := Try.checked) false ⟨#[], #[.agg #[.int .u8 0, .string ByteArray.empty, .slice none 0 0], .slice none 0 0, .agg #[.int .u8 0, .string ByteArray.empty, .slice none 0 0], .string ByteArray.empty], []⟩ 8 (by kernel_rfl) (by kernel_rfl) (by kernel_rfl) (by kernel_rfl)) ?_
  intro W base args ds gs before hval0 hW hcnd _
  have hval : ∀ (j : Nat) t v, Try.f4.params[j]? = some t → args[j]? = some v → Value.okWide Try.prog W .any base t v := hval0
  have hW' := hW
  obtain ⟨p, q, hA0, hV, rfl, hfz, hnd⟩ := hW
  have hA : DataW.TrodAll enc Try.prog W 0 (fun _ => true) true Try.f4.params.toList args.toList ds p := hA0
  rw [Try.params4] at hA hval
  obtain ⟨v0, vs0, d0, ds0, p0, q0, hargs, rfl, rfl, h0, r0⟩ := trodAll_cons hA
  obtain ⟨v1, vs1, d1, ds1, p1, q1, rfl, rfl, rfl, h1, r1⟩ := trodAll_cons r0
  obtain ⟨v2, vs2, d2, ds2, p2, q2, rfl, rfl, rfl, h2, r2⟩ := trodAll_cons r1
  obtain ⟨v3, vs3, d3, ds3, p3, q3, rfl, rfl, rfl, h3, r3⟩ := trodAll_cons r2
  obtain ⟨rfl, rfl, rfl⟩ := trodAll_nil r3
  obtain rfl : args = #[v0, v1, v2, v3] := by cases args; simp_all
  obtain ⟨rfl, rfl⟩ := trodVars_none hV
  have k0 := h0
  have lt0 : ∀ x ∈ p0, x.block < W.heap.size := by obtain ⟨m, hm⟩ := k0; exact DataW.trod_lt m _ _ _ hm
  have k2 := h2
  have lt2 : ∀ x ∈ p2, x.block < W.heap.size := by obtain ⟨m, hm⟩ := k2; exact DataW.trod_lt m _ _ _ hm
  have k1 := h1
  have lt1 : ∀ x ∈ p1, x.block < W.heap.size := by obtain ⟨m, hm⟩ := k1; exact DataW.trod_lt m _ _ _ hm
  obtain ⟨n, ht, szt, hn⟩ := node_arg (hval 0 24 v0 rfl rfl) h0
  obtain ⟨n2, hv, szv, hn2⟩ := node_arg (hval 2 24 v2 rfl rfl) h2
  obtain ⟨pa, plen, pcap, rfl⟩ := okWide_slice Try.underlying32 (hval 1 32 v1 rfl rfl)
  obtain ⟨name, rfl, rfl, rfl, hname⟩ := open_string Try.underlying9 (hval 3 9 v3 rfl rfl) h3
  obtain ⟨ps, hps, hpc, hin⟩ : ∃ ps : List Int, ps.length = plen ∧ plen ≤ pcap ∧ InInts W pa ps := by
    obtain ⟨fuel, hf⟩ := h1
    rcases open_ints Try.underlying32 Try.underlying3 (by kernel_rfl) hf with ⟨hcs, _⟩ | ⟨x, l, c, zs, hcs, _, hl, hm, hz, _, hcell, hwz⟩
    · simp [Value.cells] at hcs
      obtain ⟨rfl, rfl, rfl⟩ := hcs
      exact ⟨[], rfl, Nat.le_refl _, fun i hi => absurd hi (Nat.not_lt_zero _)⟩
    · simp [Value.cells] at hcs
      obtain ⟨rfl, rfl, rfl⟩ := hcs
      simp only [if_true] at hz
      refine ⟨zs.take plen, by simp; omega, hl, fun i hi => ?_⟩
      simp only [List.length_take] at hi
      obtain ⟨b, off, spot⟩ := x
      have hc0 := hcell i (by omega)
      have hspot : spot = none := by
        have := World.cell?_spot (hcell 0 (by omega))
        simpa [Addr.add] using this
      subst hspot
      rw [Addr.add_mid] at hc0
      exact ⟨b, off, rfl, by rw [hc0]; simp [List.getD, show i < plen by omega]⟩
  clear hA0 hval0
  refine (f4_any n n2 v0 v2 ht hv szt szv pa plen pcap ps name W hn hn2 hps hpc hin).mono fun e W' ⟨he, bel⟩ => ?_
  subst he
  exact ⟨_, rfl, _, _, _, [], _, [], hW', trodAll_mk1 (shut_bool Try.underlying4 _), (trodAll_cons_mk (Below.trod laidOut (by kernel_rfl) (of_decide_eq_true (by kernel_rfl)) k0 bel lt0) (trodAll_cons_mk (Below.trod laidOut (by kernel_rfl) (of_decide_eq_true (by kernel_rfl)) k1 bel lt1) (trodAll_cons_mk (Below.trod laidOut (by kernel_rfl) (of_decide_eq_true (by kernel_rfl)) k2 bel lt2) (trodAll_cons_mk (shut_string Try.underlying9 hname) trodAll_mk0)))), rfl, bel.frame _, fun h => by cases h⟩

theorem place_over : Rows.fnContainsAggregateAtAnyPlaceRow.holds Try.pinned (OpenSpec.ofChange Rows.fnContainsAggregateAtAnyPlaceSpec) :=
  OpenClaim.holds_of_wide 4 Try.f4 rfl rfl rfl rfl rfl rfl rfl ⟨rfl, rfl, rfl, rfl, rfl⟩ rfl rfl rfl rfl rfl (by kernel_rfl) Try.func4 (by kernel_rfl)
    (of_decide_eq_true (by kernel_rfl)) (by unfold Func.isWrapper; first | (rw [if_pos (by decide +kernel)]; kernel_rfl) | (rw [if_neg (by decide +kernel)]; exact ⟨rfl, rfl⟩))
    (fun os started H enc _ => place_lifted os started H enc)

/-- THE STATEMENT. -/
theorem place_proved : Rows.FnContainsAggregateAtAnyPlaceSaid := place_over
#print axioms place_proved
end Go.Proofs.Qxb6614851a.Agg
