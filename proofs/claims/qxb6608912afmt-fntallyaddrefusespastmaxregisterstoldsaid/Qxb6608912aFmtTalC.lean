/-
  'ZZregisterTallyAdd' (7), 'ZZnewRegisterTally' (6), over one word for the tally.
-/
import Derived.Test.Qxb6608912aFmtTalB
namespace Go.Proofs.Qxb6608912aFmt.Tal
open Go.RowKit Go.Extern.Stop Go.Stop Go.Extern Go.Maps

/-- Block T is a tally whose counts read as D; all of it lies from B on. -/
def Tal (B T m : Nat) (w : World) (D : DataW Unit) : Prop :=
  B ≤ T ∧ ((w.heap[T]? = some (.cells #[.map none] 40 (0, 0)) ∧ D = .map []) ∨ ∃ M n, B ≤ M ∧ M ≠ T ∧ n ≤ m ∧ w.heap[T]? = some (.cells #[.map (some M)] 40 (0, 0)) ∧ Own w M n D)

theorem blk_lt {w : World} {b : Nat} {o : Obj} (h : w.heap[b]? = some o) : b < w.heap.size := by
  by_cases h1 : b < w.heap.size
  · exact h1
  · have h2 : w.heap[b]? = none := by simp; omega
    rw [h2] at h; cases h
theorem tal_lt {B T m : Nat} {w : World} {D : DataW Unit} (h : Tal B T m w D) : B ≤ w.heap.size := by
  rcases h with ⟨hB, ⟨hT, _⟩ | ⟨M, n, _, _, _, hT, _⟩⟩
  · have := blk_lt hT; omega
  · have := blk_lt hT; omega
theorem tal_kept {B T m : Nat} {w w' : World} {D : DataW Unit} (h : Tal B T m w D) (hb : Below w.heap.size w w') : Tal B T m w' D := by
  rcases h with ⟨hB, ⟨hT, hD⟩ | ⟨M, n, h1, h2, h3, hT, ho⟩⟩
  · exact ⟨hB, .inl ⟨by rw [hb.block T (blk_lt hT)]; exact hT, hD⟩⟩
  · exact ⟨hB, .inr ⟨M, n, h1, h2, h3, by rw [hb.block T (blk_lt hT)]; exact hT, own_kept ho hb⟩⟩
theorem tal_tidy {B T m : Nat} {w : World} {D : DataW Unit} (h : Tal B T m w D) : Tidy D := by
  rcases h with ⟨hB, ⟨hT, rfl⟩ | ⟨M, n, h1, h2, h3, hT, ho⟩⟩
  · exact tidy_empty
  · exact World.ownsMap.tidy ho law
theorem tal_mono {B T m m' : Nat} {w : World} {D : DataW Unit} (h : Tal B T m w D) (hm : m ≤ m') : Tal B T m' w D := by
  rcases h with ⟨hB, h | ⟨M, n, h1, h2, h3, hT, ho⟩⟩
  · exact ⟨hB, .inl h⟩
  · exact ⟨hB, .inr ⟨M, n, h1, h2, Nat.le_trans h3 hm, hT, ho⟩⟩

/-- The Registers in memory stay. -/
def Keep (w w' : World) : Prop := ∀ (p : Nat) (cs : Array Value), w.heap[p]? = some (.cells cs 31 (0, 0)) → w'.heap[p]? = some (.cells cs 31 (0, 0))
theorem keep_trans {w w' w'' : World} (h : Keep w w') (h' : Keep w' w'') : Keep w w'' := fun p cs hp => h' p cs (h p cs hp)
theorem keep_below {w w' : World} (hb : Below w.heap.size w w') : Keep w w' := fun p cs hp => by rw [hb.block p (blk_lt hp)]; exact hp
theorem keep_grown {w w' : World} {g : Nat} (hg : w.grownBy w' (some g)) (hne : ∀ cs, w.heap[g]? ≠ some (.cells cs 31 (0, 0))) : Keep w w' := fun p cs hp => by
  rw [hg.block p (blk_lt hp) (fun e => hne cs (by cases e; exact hp))]; exact hp

/-- 'add' counts. -/
theorem f11_add (k x z : Int) (B T m : Nat) (D : DataW Unit) (w : World) (h1 : (Lit.int .u8 k).wf = true) (h2 : (Lit.int .u32 x).wf = true) (hz0 : 0 ≤ z) (hz1 : z ≤ 1000) (hm : m ≤ 1000000)
    (ht : Tal B T m w D) (hh : Maps.has D (kl k x) = true ∨ Maps.size D < 1024) (hat : D.atKey (kl k x) (.lit (.int .u32 0)) = .lit (.int .u32 z)) :
    Calls Tryf.prog 11 #[.pointer (some ⟨T, 0, none⟩), .agg #[.int .u8 k, .int .u32 x]] w fun e w' => e = .returned (.tuple #[.int .u32 z, .nilIface]) ∧ Tal B T (m + 1) w' (D.put (kl k x) (.lit (.int .u32 (z + 1)))) ∧ Below B w w' ∧ Keep w w' := by
  have hlt := tal_lt ht
  rcases ht with ⟨hB, ⟨hT, rfl⟩ | ⟨M, n, g1, g2, g3, hT, ho⟩⟩
  · have hz : z = 0 := by
      have h : (DataW.map [] : DataW Unit).atKey (kl k x) (.lit (.int .u32 0)) = .lit (.int .u32 0) := atKey_of_not_has rfl _
      rw [h] at hat
      simpa using hat.symm
    subst hz
    refine (f11_nil k x T w h1 h2 hT).mono fun e w' ⟨he, hT', ho', hg⟩ => ⟨he, ⟨hB, .inr ⟨w.heap.size + 1, 1, by omega, ?_, by omega, hT', ho'⟩⟩, (Below.refl _ _).grown hg hlt (fun j hj => by cases hj; exact hB), keep_grown hg (fun cs e => by rw [hT] at e; simp at e)⟩
    have := blk_lt hT
    omega
  · refine (f11_some k x z T M n D w h1 h2 hz0 hz1 (by omega) (by rw [cell_of_row _ _ _ _ _ _ hT]; rfl) ho hh hat).mono fun e w' ⟨he, ho', hg⟩ => ⟨he, ⟨hB, .inr ⟨M, n + 1, g1, g2, by omega, ?_, ho'⟩⟩, (Below.refl _ _).grown hg hlt (fun j hj => by cases hj; exact g1), keep_grown hg (fun cs e => by obtain ⟨es, cl, hm, _⟩ := ho; rw [hm] at e; cases e)⟩
    rw [hg.block T (blk_lt hT) (by simp; omega)]
    exact hT
/-- 'add' refuses. -/
theorem f11_no (F : Interp) (k x : Int) (B T m : Nat) (D : DataW Unit) (w : World) (hF : F.answers w.tape) (h1 : (Lit.int .u8 k).wf = true) (h2 : (Lit.int .u32 x).wf = true)
    (ht : Tal B T m w D) (hh : Maps.has D (kl k x) = false) (hs : 1024 ≤ Maps.size D) :
    Calls Tryf.prog 11 #[.pointer (some ⟨T, 0, none⟩), .agg #[.int .u8 k, .int .u32 x]] w fun e w' => (∃ a, e = .returned (.tuple #[.int .u32 0, .iface 52 (.pointer (some a))])) ∧ Below w.heap.size w w' := by
  rcases ht with ⟨hB, ⟨hT, rfl⟩ | ⟨M, n, g1, g2, g3, hT, ho⟩⟩
  · simp [Maps.size] at hs
  · exact f11_refused F k x T M n D w hF h1 h2 (by rw [cell_of_row _ _ _ _ _ _ hT]; rfl) ho hh hs

set_option maxHeartbeats 400000 in
/-- 'ZZregisterTallyAdd' counts. -/
theorem f7_add (k x z : Int) (B T m : Nat) (D : DataW Unit) (w : World) (h1 : (Lit.int .u8 k).wf = true) (h2 : (Lit.int .u32 x).wf = true) (hz0 : 0 ≤ z) (hz1 : z ≤ 1000) (hm : m ≤ 1000000)
    (ht : Tal B T m w D) (hh : Maps.has D (kl k x) = true ∨ Maps.size D < 1024) (hat : D.atKey (kl k x) (.lit (.int .u32 0)) = .lit (.int .u32 z)) :
    Calls Tryf.prog 7 #[.pointer (some ⟨T, 0, none⟩), .agg #[.int .u8 k, .int .u32 x]] w fun e w' => e = .returned (.tuple #[.int .u32 z, .nilIface]) ∧ Tal B T (m + 1) w' (D.put (kl k x) (.lit (.int .u32 (z + 1)))) ∧ Below B w w' ∧ Keep w w' := by
  have HT := hide ht
  have HA := hide hat
  clear ht hat
  go_enter Tryf.func7, Tryf.ntmps7
  go_wp2_with fail
  have hb1 : ∀ o, Below w.heap.size w (w.alloc o) := fun o => (Below.refl _ w).alloc (Nat.le_refl _) o
  refine (f11_add k x z B T m D _ h1 h2 hz0 hz1 hm (tal_kept HT.out (hb1 _)) hh HA.out).mono ?_
  rintro e w' ⟨rfl, ht', hb', hk'⟩
  have HT' := hide ht'
  have hbb : Below B w w' := ((hb1 _).mono (tal_lt HT.out)).trans hb'
  have HK : Hid (Keep w w') := keep_trans (keep_below (hb1 _)) hk'
  clear ht' hb' hk'
  go_wp2_with fail
  go_ret2
  exact ⟨rfl, HT'.out, hbb, HK.out⟩

set_option maxHeartbeats 400000 in
/-- 'ZZregisterTallyAdd' refuses. -/
theorem f7_no (F : Interp) (k x : Int) (B T m : Nat) (D : DataW Unit) (w : World) (hF : F.answers w.tape) (h1 : (Lit.int .u8 k).wf = true) (h2 : (Lit.int .u32 x).wf = true)
    (ht : Tal B T m w D) (hh : Maps.has D (kl k x) = false) (hs : 1024 ≤ Maps.size D) :
    Calls Tryf.prog 7 #[.pointer (some ⟨T, 0, none⟩), .agg #[.int .u8 k, .int .u32 x]] w fun e w' => (∃ a, e = .returned (.tuple #[.int .u32 0, .iface 52 (.pointer (some a))])) ∧ Tal B T m w' D ∧ Below B w w' ∧ Keep w w' := by
  have HT := hide ht
  have HH := hide hh
  have HF := hide hF
  clear ht hh hF
  go_enter Tryf.func7, Tryf.ntmps7
  go_wp2_with fail
  have hb1 : ∀ o, Below w.heap.size w (w.alloc o) := fun o => (Below.refl _ w).alloc (Nat.le_refl _) o
  refine (f11_no F k x B T m D _ (by exact HF.out) h1 h2 (tal_kept HT.out (hb1 _)) HH.out hs).mono ?_
  rintro e w' ⟨⟨a, rfl⟩, hb'⟩
  have hbb : Below w.heap.size w w' := (hb1 _).trans (hb'.mono (hb1 _).size)
  clear hb'
  go_wp2_with fail
  go_ret2
  exact ⟨⟨a, rfl⟩, tal_kept HT.out hbb, hbb.mono (tal_lt HT.out), keep_below hbb⟩

set_option maxHeartbeats 400000 in
/-- 'ZZnewRegisterTally'. -/
theorem f6_any (w : World) : Calls Tryf.prog 6 #[] w fun e w' => e = .returned (.pointer (some ⟨w.heap.size, 0, none⟩)) ∧ Tal w.heap.size w.heap.size 0 w' (.map []) ∧ Below w.heap.size w w' := by
  go_enter Tryf.func6, Tryf.ntmps6
  go_wp2_with fail
  go_ret
  exact ⟨rfl, ⟨Nat.le_refl _, .inl ⟨heap_alloc_new w _, rfl⟩⟩, (Below.refl _ w).alloc (Nat.le_refl _) _⟩

/-! ### What the tally holds behind m first PCRs -/
theorem wf8 {k : Int} (h0 : 0 ≤ k) (h1 : k ≤ 255) : (Lit.int .u8 k).wf = true := by simp [Lit.wf, IntKind.min, IntKind.max, IntKind.signed, IntKind.bits]; omega
theorem wf32 {x : Int} (h0 : 0 ≤ x) (h1 : x ≤ 4294967295) : (Lit.int .u32 x).wf = true := by simp [Lit.wf, IntKind.min, IntKind.max, IntKind.signed, IntKind.bits]; omega
def Cnt (m : Nat) (D : DataW Unit) : Prop := Maps.size D = m ∧ ∀ k x : Int, (Lit.int .u8 k).wf = true → (Lit.int .u32 x).wf = true →
  Maps.has D (kl k x) = decide (k = 1 ∧ x < m) ∧ D.atKey (kl k x) (.lit (.int .u32 0)) = .lit (.int .u32 (if k = 1 ∧ x < m then 1 else 0))
theorem wf32_lo {x : Int} (h : (Lit.int .u32 x).wf = true) : 0 ≤ x := by simp [Lit.wf, IntKind.min, IntKind.max, IntKind.signed, IntKind.bits] at h; omega
theorem cnt_start : Cnt 0 (.map []) := ⟨rfl, fun k x _ h2 => by
  have h0 := wf32_lo h2
  have e : ¬ (k = 1 ∧ x < ((0 : Nat) : Int)) := by omega
  rw [if_neg e, decide_eq_false e]
  exact ⟨rfl, atKey_of_not_has rfl _⟩⟩
theorem cnt_step {m : Nat} {D : DataW Unit} (h : Cnt m D) (ht : Tidy D) (hm : m ≤ 65536) : Cnt (m + 1) (D.put (kl 1 m) (.lit (.int .u32 1))) := by
  have w1 : (Lit.int .u8 1).wf = true := by decide
  have w2 : (Lit.int .u32 (m : Int)).wf = true := wf32 (by omega) (by omega)
  have hn : Maps.has D (kl 1 m) = false := by rw [(h.2 1 m w1 w2).1]; exact decide_eq_false (by omega)
  refine ⟨by rw [size_put ht, hn, h.1]; rfl, fun k x h1 h2 => ?_⟩
  by_cases e : k = 1 ∧ x = m
  · obtain ⟨rfl, rfl⟩ := e
    have c : (1 : Int) = 1 ∧ (m : Int) < ((m + 1 : Nat) : Int) := ⟨rfl, by omega⟩
    rw [if_pos c, decide_eq_true c]
    exact ⟨has_put_same ht.isMap (kl_key w1 w2) _, atKey_put_same ht.isMap (kl_key w1 w2) _ _⟩
  · have hne : kl k x ≠ kl 1 m := fun q => e (kl_inj h1 h2 w1 w2 q)
    have c : (k = 1 ∧ x < ((m + 1 : Nat) : Int)) ↔ (k = 1 ∧ x < (m : Int)) := by omega
    rw [has_put_other hne, atKey_put_other hne]
    simp only [c]
    exact h.2 k x h1 h2

end Go.Proofs.Qxb6608912aFmt.Tal
