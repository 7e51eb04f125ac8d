/-
  'buildOptions' (6): one option for each depth.
-/
import Derived.Test.Qxb6614854aLimA
namespace Go.Proofs.Qxb6614854a.Lim
open Go.RowKit Go.Proofs.Qxb6614854a.Kit

/-- The value v is, in w, the option that sets nothing (none), or the one that sets the depth z (some z): a closure over a block of its own. -/
def OptIs (w : World) (v : Value) (o : Option Int) : Prop :=
  (o = none ∧ v = .func (.func 14) #[] #[]) ∨ ∃ z p, o = some z ∧ v = .func (.func 15) #[] #[.pointer (some ⟨p, 0, none⟩)] ∧ w.heap[p]? = some (.cells #[.int .i64 z] 3 (0, 0))

theorem optIs_keep {w w' : World} {v : Value} {o : Option Int} (h : OptIs w v o) (hk : ∀ (p : Nat) (z : Int), w.heap[p]? = some (.cells #[.int .i64 z] 3 (0, 0)) → w'.heap[p]? = w.heap[p]?) : OptIs w' v o := by
  rcases h with h | ⟨z, p, ho, hv, hp⟩
  · exact .inl h
  · exact .inr ⟨z, p, ho, hv, by rw [hk p z hp]; exact hp⟩
theorem block_lt {w : World} {b : Nat} {o : Obj} (h : w.heap[b]? = some o) : b < w.heap.size := by
  by_cases h1 : b < w.heap.size
  · exact h1
  · have h2 : w.heap[b]? = none := by simp; omega
    rw [h2] at h; cases h
theorem optIs_kept {w w' : World} {v : Value} {o : Option Int} (h : OptIs w v o) (hb : Below w.heap.size w w') : OptIs w' v o := optIs_keep h (fun p _ hp => hb.block p (block_lt hp))

/-- The options of a list, one a value. -/
def Opts (w : World) (vs : List Value) (os : List (Option Int)) : Prop := vs.length = os.length ∧ ∀ i, i < vs.length → OptIs w (vs.getD i undef) (os.getD i none)
theorem opts_keep {w w' : World} {vs : List Value} {os : List (Option Int)} (h : Opts w vs os) (hk : ∀ (p : Nat) (z : Int), w.heap[p]? = some (.cells #[.int .i64 z] 3 (0, 0)) → w'.heap[p]? = w.heap[p]?) : Opts w' vs os := ⟨h.1, fun i hi => optIs_keep (h.2 i hi) hk⟩
theorem opts_kept {w w' : World} {vs : List Value} {os : List (Option Int)} (h : Opts w vs os) (hb : Below w.heap.size w w') : Opts w' vs os := ⟨h.1, fun i hi => optIs_kept (h.2 i hi) hb⟩
theorem opts_snoc {w : World} {vs : List Value} {os : List (Option Int)} {v : Value} {o : Option Int} (h : Opts w vs os) (hv : OptIs w v o) : Opts w (vs ++ [v]) (os ++ [o]) := by
  refine ⟨by simp [h.1], fun i hi => ?_⟩
  simp only [List.length_append, List.length_cons, List.length_nil] at hi
  by_cases e : i < vs.length
  · have := h.2 i e
    have h1 := h.1
    simp only [List.getD, List.getElem?_append_left e, List.getElem?_append_left (show i < os.length by omega)]
    exact this
  · have e1 : i = vs.length := by omega
    have h1 := h.1
    subst e1
    simp only [List.getD, List.getElem?_append_right (Nat.le_refl _), List.getElem?_append_right (show os.length ≤ vs.length by omega), Nat.sub_self, show vs.length - os.length = 0 by omega]
    exact hv

/-- What option i does. -/
def optAt (zs : List Int) (bs : List Bool) (i : Nat) : Option Int := if sk bs i = true then none else some (zs.getD i 0)
/-- The first n options. -/
def optL (zs : List Int) (bs : List Bool) : Nat → List (Option Int)
  | 0 => []
  | n + 1 => optL zs bs n ++ [optAt zs bs n]
theorem optL_length (zs : List Int) (bs : List Bool) : ∀ n, (optL zs bs n).length = n
  | 0 => rfl
  | n + 1 => by simp [optL, optL_length zs bs n]

theorem info33 : (Try.prog.info? 33).map (fun i => (i.zero, i.size, i.bytes)) = some (some .nilFunc, 1, 8) := by kernel_rfl

theorem cell_one (w : World) (v : Value) (e : TypeId) : ∀ j u, ([v] : List Value)[j]? = some u → (w.alloc (.cells #[v] e)).cell? ((⟨w.heap.size, 0, none⟩ : Addr).add j) = some u := fun j u hu => by
  rw [Addr.add_mid, cell_of_row _ _ _ _ _ _ (heap_alloc_new w _), Nat.zero_add]
  simpa using hu
theorem cell_two (w : World) (A : Obj) (v : Value) (e : TypeId) : ∀ j u, ([v] : List Value)[j]? = some u → ((w.alloc A).alloc (.cells #[v] e)).cell? ((⟨w.heap.size + 1, 0, none⟩ : Addr).add j) = some u := fun j u hu => by
  rw [Addr.add_mid, cell_of_row _ _ _ _ _ _ (heap_alloc2_new w A _), Nat.zero_add]
  simpa using hu
theorem one_func (f : FuncId) (c : Array Value) : ∀ u, u ∈ ([.func (.func f) #[] c] : List Value) → u.oneCell' = true := fun u hu => by
  simp at hu; subst hu; rfl

/-- An owned row of options is no captured variable. -/
theorem own_ne {w : World} {B g n cap : Nat} {xs : List Value} (h : w.ownsRow B 33 1 (.slice (some ⟨g, 0, none⟩) n cap) n xs) {p : Nat} {z : Int} (hp : w.heap[p]? = some (.cells #[.int .i64 z] 3 (0, 0))) : p ≠ g := by
  rcases h.2 with ⟨h0, _⟩ | ⟨g', cap', cur, hv, _, hg, _⟩
  · cases h0
  · simp only [Value.slice.injEq, Option.some.injEq, Addr.mk.injEq, and_true, true_and] at hv
    obtain ⟨rfl, rfl⟩ := hv
    intro e
    subst e
    rw [hp] at hg
    simp at hg

set_option maxHeartbeats 1000000 in
/-- 'buildOptions'. -/
theorem f6_any (a b : Option Addr) (n c m d : Nat) (zs : List Int) (bs : List Bool) (w : World) (hz : zs.length = n) (hs : bs.length = m) (hn : n ≤ 1048576) (hi1 : InInts w a zs) (hc : InBools w b bs) :
    Calls Try.prog 6 #[.slice a n c, .slice b m d] w fun e w' => e = .returned (.slice (some ⟨w.heap.size, 0, none⟩) n n) ∧ (∃ vs, w'.ownsRow w.heap.size 33 1 (.slice (some ⟨w.heap.size, 0, none⟩) n n) n vs ∧ Opts w' vs (optL zs bs n)) ∧ Below w.heap.size w w' := by
  have HC := hide hc
  have HS := hide hs
  have HI := hide hi1
  have HZ := hide hz
  clear hc hs hi1 hz
  obtain ⟨i0, hi, hz0, hz1, hz2⟩ := info_parts info33
  go_enter Try.func6, Try.ntmps6
  go_wp2_with (at_make; refine wpList_make_own _ rfl _ _ 25 rfl w.heap.size 33 i0 .nilFunc 1 Try.underlying25 hi hz0 hz1 _ _ _ n rfl rfl rfl (by rw [hz2]; omega) (by unfold maxLen; omega) (Nat.le_refl _) ?_)
  intro w1 hown1 hgrow1
  have HO1 := hide hown1
  have hB1 : Below w.heap.size w w1 := (Below.refl _ _).grown hgrow1 (Nat.le_refl _) (fun k hk => by cases hk)
  clear hown1 hgrow1
  go_wp2_with fail
  go_loopw [5, 6] (fun v i wr => ∃ (j : Nat) (vs : List Value), j ≤ n ∧ i = .int .i64 j ∧ v = .slice (some ⟨w.heap.size, 0, none⟩) j n ∧ Hid (wr.ownsRow w.heap.size 33 1 (.slice (some ⟨w.heap.size, 0, none⟩) j n) j vs) ∧ Hid (Opts wr vs (optL zs bs j)) ∧ Below w.heap.size w wr) (fun _ i _ => n - (intOf i).toNat)
  case atStart => exact ⟨0, [], Nat.zero_le _, rfl, rfl, HO1, ⟨rfl, fun i hi => absurd hi (Nat.not_lt_zero _)⟩, hB1⟩
  case round =>
    obtain ⟨j, vs, hj, rfl, rfl, HO, HOP, hbr⟩ := hrel
    clear HO1 hB1
    by_cases hlt : j < n
    · have HBo := hide (inBools_kept HC.out hbr)
      obtain ⟨pb, po, rfl, hcell⟩ := (inInts_kept HI.out hbr) j (by have := HZ.out; omega)
      have hat : optAt zs bs j = if sk bs j = true then none else some (zs.getD j 0) := rfl
      have HAT := hide hat
      clear hat
      generalize zs.getD j 0 = z at hcell HAT
      have hj3 : (j : Int) < (n : Int) := by omega
      go_wp2_with fail
      refine (f11_any b m d bs j _ HS.out HBo.out).mono ?_
      rintro e w' ⟨rfl, rfl⟩
      cases hsk : sk bs j with
      | true =>
        have HK := hide hsk
        clear hsk
        go_wp2_with fail
        refine (f12_any _).mono ?_
        rintro e w' ⟨rfl, rfl⟩
        go_wp2_with (at_builtin; refine wpList_append_fits _ rfl (.tmp 19) (.tmp 21) 25 rfl w.heap.size 33 i0 1 Try.underlying25 hi hz1 w.heap.size j n vs rfl (HO.out.alloc _) ⟨wr.heap.size, 0, none⟩ 1 1 [.func (.func 14) #[] #[]] rfl rfl (cell_one wr _ 33) (one_func 14 #[]) (by omega) ?_)
        intro w3 hown3 hgrow3
        have hOP3 : Hid (Opts w3 (vs ++ [.func (.func 14) #[] #[]]) (optL zs bs (j + 1))) := by
          show Opts _ _ (optL zs bs j ++ [optAt zs bs j])
          refine opts_snoc (opts_keep HOP.out (fun p z' hp => ?_)) (.inl ⟨by rw [HAT.out, if_pos HK.out], rfl⟩)
          have hpl := block_lt hp
          rw [hgrow3.block p (by rw [size_new]; omega) (by simpa using own_ne HO.out hp), Below.heap_alloc _ _ _ hpl]
        have HO3 := hide hown3
        have hB3 : Below w.heap.size w w3 := (hbr.alloc hbr.size _).grown hgrow3 (by rw [size_new]; have := hbr.size; omega) (fun k hk => by simp at hk; omega)
        clear hown3 hgrow3 HO HOP hcell
        go_wp2_with fail
        go_roundw
        case rel => exact ⟨j + 1, _, by omega, by go_num, rfl, HO3, hOP3, hB3⟩
        case measure => simp [intOf]; omega
      | false =>
        have HK := hide hsk
        clear hsk
        go_wp2_with fail
        refine (f13_any z _).mono ?_
        rintro e w' ⟨rfl, rfl⟩
        go_wp2_with (at_builtin; refine wpList_append_fits _ rfl (.tmp 23) (.tmp 29) 25 rfl w.heap.size 33 i0 1 Try.underlying25 hi hz1 w.heap.size j n vs rfl ((HO.out.alloc _).alloc _) ⟨wr.heap.size + 1, 0, none⟩ 1 1 [.func (.func 15) #[] #[.pointer (some ⟨wr.heap.size, 0, none⟩)]] rfl rfl (cell_two wr _ _ 33) (one_func 15 _) (by omega) ?_)
        intro w3 hown3 hgrow3
        have hlt2 : w.heap.size < wr.heap.size := (HO.out.lt w.heap.size rfl).2
        have hOP3 : Hid (Opts w3 (vs ++ [.func (.func 15) #[] #[.pointer (some ⟨wr.heap.size, 0, none⟩)]]) (optL zs bs (j + 1))) := by
          show Opts _ _ (optL zs bs j ++ [optAt zs bs j])
          refine opts_snoc (opts_keep HOP.out (fun p z' hp => ?_)) (.inr ⟨z, wr.heap.size, by rw [HAT.out, if_neg (by rw [HK.out]; decide)], rfl, ?_⟩)
          · have hpl := block_lt hp
            rw [hgrow3.block p (by rw [size_new, size_new]; omega) (by simpa using own_ne HO.out hp), Below.heap_alloc _ _ _ (by rw [size_new]; omega), Below.heap_alloc _ _ _ hpl]
          · rw [hgrow3.block wr.heap.size (by rw [size_new, size_new]; omega) (by simp; omega), Below.heap_alloc _ _ _ (by rw [size_new]; omega)]
            exact heap_alloc_new wr _
        have HO3 := hide hown3
        have hB3 : Below w.heap.size w w3 := ((hbr.alloc hbr.size _).alloc (by rw [size_new]; omega) _).grown hgrow3 (by rw [size_new, size_new]; omega) (fun k hk => by simp at hk; omega)
        clear hown3 hgrow3 HO HOP hcell
        go_wp2_with fail
        go_roundw
        case rel => exact ⟨j + 1, _, by omega, by go_num, rfl, HO3, hOP3, hB3⟩
        case measure => simp [intOf]; omega
    · have hjn : j = n := by omega
      go_wp2_with fail
      go_ret
      subst hjn
      exact ⟨rfl, ⟨vs, HO.out, HOP.out⟩, hbr⟩

end Go.Proofs.Qxb6614854a.Lim
