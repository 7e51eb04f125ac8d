/-
  'graft' (10): s put at the place that path leads to.
-/
import Derived.Test.Qxb6614851aAggE
namespace Go.Proofs.Qxb6614851a.Agg
open Go.RowKit Go.Proofs.Qxb6614851a.Kit

def upd {α : Type} (f : Nat → α) (i : Nat) (x : α) : Nat → α := fun j => if j = i then x else f j

theorem hasOf_upd {k : Int} {s : ByteArray} {len i : Nat} {hs : Nat → Bool} {c h : Bool} (hi : i < len) (hw : walkedK k i = true) : hasOf k s len (upd hs i (c || h)) = (hasOf k s len (upd hs i c) || h) := by
  unfold hasOf
  rw [Bool.or_assoc]
  congr 1
  rw [Bool.eq_iff_iff, Bool.or_eq_true, anyTo_iff, anyTo_iff]
  constructor
  · rintro ⟨j, hj, hf⟩
    by_cases e : j = i
    · subst e
      simp only [upd, if_true, Bool.and_eq_true, Bool.or_eq_true] at hf
      rcases hf.2 with h1 | h1
      · exact .inl ⟨j, hj, by simp [upd, hw, h1]⟩
      · exact .inr h1
    · exact .inl ⟨j, hj, by simpa [upd, e] using hf⟩
  · rintro (⟨j, hj, hf⟩ | h1)
    · by_cases e : j = i
      · subst e
        exact ⟨j, hj, by simp [upd] at hf ⊢; simp [hf.1, hf.2]⟩
      · exact ⟨j, hj, by simpa [upd, e] using hf⟩
    · exact ⟨i, hi, by simp [upd, hw, h1]⟩

theorem sumTo_congr {f g : Nat → Nat} : ∀ {n : Nat}, (∀ j, j < n → f j = g j) → sumTo n f = sumTo n g
  | 0, _ => rfl
  | n + 1, h => by rw [sumTo, sumTo, sumTo_congr (fun j hj => h j (by omega)), h n (by omega)]
theorem sumTo_upd {f : Nat → Nat} {i x d : Nat} (hx : x ≤ f i + d) : ∀ {n : Nat}, sumTo n (upd f i x) ≤ sumTo n f + d
  | 0 => by simp [sumTo]
  | n + 1 => by
    rw [sumTo, sumTo]
    by_cases e : n = i
    · subst e
      have h1 : sumTo n (upd f n x) = sumTo n f := sumTo_congr (fun j hj => by simp [upd]; omega)
      have h2 : upd f n x n = x := by simp [upd]
      omega
    · have h1 := sumTo_upd (f := f) (i := i) (x := x) (d := d) hx (n := n)
      have h2 : upd f i x n = f n := by simp [upd, e]
      omega

/-- A slice of ints in memory, at the address 'a'. -/
def InInts (w : World) (a : Option Addr) (ps : List Int) : Prop :=
  ∀ i, i < ps.length → ∃ b off, a = some ⟨b, off, none⟩ ∧ w.cell? ⟨b, off + i, none⟩ = some (.int .i64 (ps.getD i 0))

/-- 'copy(dst, src)' of elements of whatever width, both of n elements. -/
theorem wpList_copy_wide {P : Program} {w : World} {ops : Array Oper} {rest : List Oper} {o : Oper} {a : Act} {Q : Exit → Act → World → Prop} (hgd : o.guard = none) (d s : Operand) (dT sT : TypeId)
    (ho : o.op = .call { callee := .builtin .copy, args := #[d, s], argTypes := #[dT, sT] }) (elem : TypeId) (hu : P.underlying dT = some (.slice elem)) (size : Nat) (hsz : (P.info? elem).map (·.size) = some size)
    (g n dCap : Nat) (ad : Addr) (sCap : Nat) (hd : a.eval d = .slice (some ⟨g, 0, none⟩) n dCap) (hs : a.eval s = .slice (some ad) n sCap)
    (cs : List Value) (hn : cs.length = n * size) (hsrc : ∀ j v, cs[j]? = some v → w.cell? (ad.add j) = some v) (ht : w.there g 0 (n * size)) (h1 : ∀ v ∈ cs, v.oneCell' = true)
    (h : wpList P ops Q rest (a.put o.dst (goInt n)) (w.setCells g 0 cs)) : wpList P ops Q (o :: rest) a w := by
  refine wpList_plain hgd fun K hK => ?_
  have hl := run_loadCells_list (P := P) w ad cs hsrc
  have hst := run_storeCells_cells (P := P) g 0 cs 0 w (fun j hj => by simpa using (ht j (by omega)).1) (fun j hj => by simpa using (ht j (by omega)).2) h1
  have hrun : (Builtin.copy_ #[dT, sT] o.type #[.slice (some ⟨g, 0, none⟩) n dCap, .slice (some ad) n sCap]).run P w = .ok (goInt n) (w.setCells g 0 cs) := by
    cases hq : P.info? elem with
    | none => simp [hq] at hsz
    | some i =>
      have hi : i.size = size := by simpa [hq] using hsz
      have hmin : Nat.min n n = n := Nat.min_self n
      simp [Builtin.copy_, run_underlying hu, Builtin.lenOf, Builtin.firstCells, sizeOf, typeInfo, hq, hi, hmin, ← hn, hl, hst]
  unfold Oper.wp
  simp [execOp, ho, resolve, invoke, builtin, hd, hs, hrun, Result.andThen]
  exact hK _ _ h

/-- The kids of a node as a list. -/
theorem kids_list {ok : Nat → Prop} {n : Nat} {w : World} {b off : Nat} {len : Nat} {hs : Nat → Bool} {szs : Nat → Nat} (h : Kids ok n w (some ⟨b, off, none⟩) len hs szs) :
    ∀ j, j ≤ len → ∃ E : List Ent, E.length = j ∧ (∀ t u, (cellsE E)[t]? = some u → w.cell? ⟨b, off + t, none⟩ = some u) ∧ (∀ u, u ∈ cellsE E → u.oneCell' = true) ∧
      ∀ i, i < j → ∃ c0 c1 c2, (cellsE E)[i * 3]? = some c0 ∧ (cellsE E)[i * 3 + 1]? = some c1 ∧ (cellsE E)[i * 3 + 2]? = some c2 ∧ NodeIn ok n w (.agg #[c0, c1, c2]) (hs i) (szs i)
  | 0, _ => ⟨[], rfl, (fun t u hu => by simp [cellsE] at hu), (fun u hu => by simp [cellsE] at hu), fun i hi => absurd hi (Nat.not_lt_zero _)⟩
  | j + 1, hj => by
    obtain ⟨E, hl, hc, h1, hk⟩ := kids_list h j (by omega)
    obtain ⟨b', off', c0, c1, c2, ha, _, hr, hn⟩ := h j (by omega)
    simp only [Option.some.injEq, Addr.mk.injEq, and_true] at ha
    obtain ⟨rfl, rfl⟩ := ha
    have hlen : (cellsE E).length = j * 3 := by rw [cellsE_length, hl]
    refine ⟨E ++ [⟨c0, c1, c2, hs j, szs j⟩], by simp [hl], fun t u hu => ?_, fun u hu => ?_, fun i hi => ?_⟩
    · rw [cellsE_append] at hu
      by_cases ht : t < j * 3
      · rw [List.getElem?_append_left (by omega)] at hu
        exact hc t u hu
      · rw [List.getElem?_append_right (by omega), hlen] at hu
        have := hr (t - j * 3) u hu
        rwa [show off + j * 3 + (t - j * 3) = off + t by omega] at this
    · rw [cellsE_append, List.mem_append] at hu
      rcases hu with hu | hu
      · exact h1 u hu
      · obtain ⟨k9, s9, a9, l9, p9, hsh⟩ := node_shape hn
        simp only [Value.agg.injEq, Array.mk.injEq, List.cons.injEq, and_true] at hsh
        obtain ⟨rfl, rfl, rfl⟩ := hsh
        exact three_each k9 s9 a9 l9 p9 u hu
    · rw [cellsE_append]
      by_cases e : i = j
      · subst e
        refine ⟨c0, c1, c2, ?_, ?_, ?_, hn⟩
        · rw [List.getElem?_append_right (by omega), hlen, Nat.sub_self]; rfl
        · rw [List.getElem?_append_right (by omega), hlen, show i * 3 + 1 - i * 3 = 1 by omega]; rfl
        · rw [List.getElem?_append_right (by omega), hlen, show i * 3 + 2 - i * 3 = 2 by omega]; rfl
      · obtain ⟨d0, d1, d2, g0, g1, g2, hn'⟩ := hk i (by omega)
        exact ⟨d0, d1, d2, by rw [List.getElem?_append_left (by omega)]; exact g0, by rw [List.getElem?_append_left (by omega)]; exact g1, by rw [List.getElem?_append_left (by omega)]; exact g2, hn'⟩

/-- A block of three cells. -/
def Blk (w : World) (b : Nat) (x y z : Value) : Prop := w.heap[b]? = some (.cells #[x, y, z] 24 (0, 0))
theorem blk_lt {w : World} {b : Nat} {x y z : Value} (h : Blk w b x y z) : b < w.heap.size := by
  by_cases h1 : b < w.heap.size
  · exact h1
  · have h2 : w.heap[b]? = none := by simp; omega
    rw [Blk, h2] at h; cases h
theorem blk_cells {w : World} {b : Nat} {x y z : Value} (h : Blk w b x y z) : w.cell? ⟨b, 0, none⟩ = some x ∧ w.cell? ⟨b, 1, none⟩ = some y ∧ w.cell? ⟨b, 2, none⟩ = some z :=
  ⟨by rw [cell_of_row _ _ _ _ _ _ h]; rfl, by rw [cell_of_row _ _ _ _ _ _ h]; rfl, by rw [cell_of_row _ _ _ _ _ _ h]; rfl⟩
theorem blk_kept {B : Nat} {w w' : World} {b : Nat} {x y z : Value} (h : Blk w b x y z) (hb : Below B w w') (hB : b < B) : Blk w' b x y z := by
  show _ = _; rw [hb.block b hB]; exact h
theorem three_blocks {w W0 : World} {x y z x' y' z' x2 y2 z2 : Value} (h : W0 = ((w.alloc (.cells #[x, y, z] 24)).alloc (.cells #[x', y', z'] 24)).alloc (.cells #[x2, y2, z2] 24)) :
    Blk W0 w.heap.size x y z ∧ Blk W0 (w.heap.size + 1) x' y' z' ∧ Blk W0 (w.heap.size + 1 + 1) x2 y2 z2 ∧ W0.heap.size = w.heap.size + 3 ∧ Below w.heap.size w W0 := by
  have s1 := size_new w (.cells #[x, y, z] 24)
  have s2 := size_new (w.alloc (.cells #[x, y, z] 24)) (.cells #[x', y', z'] 24)
  have s3 := size_new ((w.alloc (.cells #[x, y, z] 24)).alloc (.cells #[x', y', z'] 24)) (.cells #[x2, y2, z2] 24)
  rw [← h] at s3
  refine ⟨?_, ?_, ?_, by omega, ?_⟩
  · show _ = _; rw [h, Below.heap_alloc _ _ _ (by omega), heap_alloc2_old]
  · show _ = _; rw [h, Below.heap_alloc _ _ _ (by omega), heap_alloc2_new]
  · have := heap_alloc_new ((w.alloc (.cells #[x, y, z] 24)).alloc (.cells #[x', y', z'] 24)) (.cells #[x2, y2, z2] 24)
    rw [s2, s1, ← h] at this
    exact this
  · rw [h]; exact (((Below.refl _ _).alloc (Nat.le_refl _) _).alloc (by omega) _).alloc (by omega) _

theorem below_three {B g : Nat} {w0 w : World} (h : Below B w0 w) (hg : B ≤ g) (x y z : Value) : Below B w0 (((w.setCell ⟨g, 0, none⟩ x).setCell ⟨g, 1, none⟩ y).setCell ⟨g, 2, none⟩ z) :=
  ((h.setCell hg _).setCell hg _).setCell hg _

set_option maxHeartbeats 1000000 in
/-- 'graft' at an empty path: s. -/
theorem f10_empty (k : Int) (s : ByteArray) (a : Option Addr) (len cap : Nat) (pa : Option Addr) (pcap : Nat) (k2 : Int) (s2 : ByteArray) (a2 : Option Addr) (l2 p2 : Nat) (w : World) :
    Calls Try.prog 10 #[.agg #[.int .u8 k, .string s, .slice a len cap], .slice pa 0 pcap, .agg #[.int .u8 k2, .string s2, .slice a2 l2 p2]] w
      fun e w' => e = .returned (.agg #[.int .u8 k2, .string s2, .slice a2 l2 p2]) ∧ Below w.heap.size w w' := by
  go_enter Try.func10, Try.ntmps10
  go_wp2_with fail
  go_quiet (fail)
  go_wp2_with fail
  refine bodyPost_ret (v := .agg #[.int .u8 k2, .string s2, .slice a2 l2 p2]) (by simp [results, Try.results10, go_sem]) rfl ⟨rfl, ?_⟩
  exact below_three (below_drewN ((((Below.refl _ w).alloc (Nat.le_refl _) _).alloc (by simp) _).alloc (by simp; omega) _) _) (by omega) _ _ _

set_option maxHeartbeats 1000000 in
/-- 'graft' where the next index names no walked kid: s. -/
theorem f10_stop (k : Int) (s : ByteArray) (a : Option Addr) (len cap : Nat) (pb po plen pcap : Nat) (i : Int) (k2 : Int) (s2 : ByteArray) (a2 : Option Addr) (l2 p2 : Nat) (w : World) (hp : 0 < plen) (hi : w.cell? ⟨pb, po, none⟩ = some (.int .i64 i)) (hw : walkedI k len i = false) :
    Calls Try.prog 10 #[.agg #[.int .u8 k, .string s, .slice a len cap], .slice (some ⟨pb, po, none⟩) plen pcap, .agg #[.int .u8 k2, .string s2, .slice a2 l2 p2]] w
      fun e w' => e = .returned (.agg #[.int .u8 k2, .string s2, .slice a2 l2 p2]) ∧ Below w.heap.size w w' := by
  obtain ⟨W0, hW0⟩ : ∃ W0, W0 = ((w.alloc (.cells #[.int .u8 k, .string s, .slice a len cap] 24)).alloc (.cells #[.int .u8 k2, .string s2, .slice a2 l2 p2] 24)).alloc (.cells #[.int .u8 0, .string ⟨#[]⟩, .slice none 0 0] 24) := ⟨_, rfl⟩
  have hp1 : ((plen : Int) == 0) = false := beq_eq_false_iff_ne.2 (by omega)
  have hp2 : (0 : Int) < (plen : Int) := by omega
  have HW := hide hw
  clear hw
  go_enter Try.func10, Try.ntmps10
  go_wp2_with fail
  rw [← hW0]
  have HC := hide (three_blocks hW0)
  have hB0 : Below w.heap.size w W0 := HC.out.2.2.2.2
  have hi0 : W0.cell? ⟨pb, po, none⟩ = some (.int .i64 i) := cell_kept hB0 (Nat.le_refl _) hi
  obtain ⟨d0, d1, d2⟩ := blk_cells HC.out.1
  clear hW0
  go_region_held3 (fun w' => w'.cell? ⟨w.heap.size, 0, none⟩ = some (.int .u8 k) ∧ w'.cell? ⟨w.heap.size, 1, none⟩ = some (.string s) ∧ w'.cell? ⟨w.heap.size, 2, none⟩ = some (.slice a len cap) ∧ w'.cell? ⟨pb, po, none⟩ = some (.int .i64 i)) (first | go_keep | exact ⟨m0, m1, m2, m3⟩)
    (first
      | (go_at_call 20; refine (f20_any k s a len cap i _).mono ?_; rintro e w2 ⟨rfl, hb2⟩; obtain ⟨m0, m1, m2⟩ := cells_kept3 hb2 d0 d1 d2; have m3 := cell_kept (w := W0.drew) hb2 (Nat.le_refl _) hi0; rw [HW.out]))
  have hB2 : Below w.heap.size w w2 := (hB0.drew).trans (hb2.mono hB0.size)
  have hbD : Below W0.heap.size W0 w2 := ((Below.refl _ _).drew).trans hb2
  have hz0 := HC.out.2.2.2.1
  have b1 := blk_kept HC.out.2.1 hbD (by omega)
  have b2 := blk_kept HC.out.2.2.1 hbD (by omega)
  obtain ⟨e0, e1, e2⟩ := blk_cells b1
  obtain ⟨r0, r1, r2⟩ := blk_cells b2
  have r3 : ∀ o, w2.frozen? ⟨w.heap.size + 1 + 1, o, none⟩ = false := fun o => frozen_of_row _ _ _ _ _ b2
  clear b1 b2 hz0
  go_wp2_with fail
  refine bodyPost_ret (v := .agg #[.int .u8 k2, .string s2, .slice a2 l2 p2]) (by simp [results, Try.results10, go_sem, r0, r1, r2]) rfl ⟨rfl, ?_⟩
  exact below_three hB2 (by omega) _ _ _

theorem far3 {w : World} {K o : Nat} {x y z : Value} {b' o' : Nat} {v : Value} (hne : b' ≠ K) (h : w.cell? ⟨b', o', none⟩ = some v) :
    (((w.setCell ⟨K, o, none⟩ x).setCell ⟨K, o + 1, none⟩ y).setCell ⟨K, o + 2, none⟩ z).cell? ⟨b', o', none⟩ = some v := by
  rw [World.cell?_of_block (w := w) (a := ⟨b', o', none⟩)]
  · exact h
  · rw [Below.heap_setCell _ _ _ _ hne, Below.heap_setCell _ _ _ _ hne, Below.heap_setCell _ _ _ _ hne]
theorem there_three {w : World} {g o : Nat} (h : w.there g o 3) : ∃ x y z, w.cell? ⟨g, o, none⟩ = some x ∧ w.cell? ⟨g, o + 1, none⟩ = some y ∧ w.cell? ⟨g, o + 2, none⟩ = some z ∧ w.frozen? ⟨g, o, none⟩ = false ∧ w.frozen? ⟨g, o + 1, none⟩ = false ∧ w.frozen? ⟨g, o + 2, none⟩ = false := by
  obtain ⟨x, hx⟩ := Option.isSome_iff_exists.1 (h 0 (by omega)).1
  obtain ⟨y, hy⟩ := Option.isSome_iff_exists.1 (h 1 (by omega)).1
  obtain ⟨z, hz⟩ := Option.isSome_iff_exists.1 (h 2 (by omega)).1
  exact ⟨x, y, z, hx, hy, hz, (h 0 (by omega)).2, (h 1 (by omega)).2, (h 2 (by omega)).2⟩
theorem kidsAt_copied {okB ok' : Nat → Prop} {n : Nat} {w w3 : World} {K0 len : Nat} {E : List Ent} {hs : Nat → Bool} {szs : Nat → Nat} (hl : (cellsE E).length = len * 3) (ht : w3.there K0 0 (len * 3))
    (hk : ∀ i, i < len → ∃ c0 c1 c2, (cellsE E)[i * 3]? = some c0 ∧ (cellsE E)[i * 3 + 1]? = some c1 ∧ (cellsE E)[i * 3 + 2]? = some c2 ∧ NodeIn okB n w (.agg #[c0, c1, c2]) (hs i) (szs i))
    (hb : Below w.heap.size w w3) (hok : ∀ x, x < w.heap.size → ok' x) (hK : ∀ x, x < w.heap.size → x ≠ K0) : KidsAt ok' n (w3.setCells K0 0 (cellsE E)) K0 len hs szs := fun t htl => by
  obtain ⟨c0, c1, c2, h0, h1, h2, hn⟩ := hk t htl
  have hr := World.rangeAt_setCells_same w3 K0 0 (cellsE E) (by rw [hl]; exact ht)
  refine ⟨c0, c1, c2, fun j v hv => ?_, ?_⟩
  · have hr' : ∀ j v, (cellsE E)[j]? = some v → (w3.setCells K0 0 (cellsE E)).cell? ⟨K0, j, none⟩ = some v := fun j v hv => by have := hr j v hv; rwa [Nat.zero_add] at this
    match j, hv with
    | 0, hv => simp at hv; subst hv; exact hr' _ _ h0
    | 1, hv => simp at hv; subst hv; exact hr' _ _ h1
    | 2, hv => simp at hv; subst hv; exact hr' _ _ h2
  · have h3 : NodeIn ok' n w (.agg #[c0, c1, c2]) (hs t) (szs t) := nodeIn_mono n hn (fun x _ hx => hok x hx)
    have h4 : NodeIn (fun x => x < w.heap.size) n w (.agg #[c0, c1, c2]) (hs t) (szs t) := nodeIn_mono n hn (fun x _ hx => hx)
    have h5 := nodeIn_keep (w' := w3.setCells K0 0 (cellsE E)) n h4 (fun x hx _ => by rw [heap_setCells_ne K0 _ _ _ x (hK x hx)]; exact hb.block x hx)
    exact nodeIn_mono n h5 (fun x hx _ => hok x hx)

theorem kidsAt_le {ok : Nat → Prop} {n n' : Nat} (hn : n ≤ n') {w : World} {g j : Nat} {hs : Nat → Bool} {szs : Nat → Nat} (h : KidsAt ok n w g j hs szs) : KidsAt ok n' w g j hs szs := fun t ht => by
  obtain ⟨c0, c1, c2, hr, hx⟩ := h t ht
  exact ⟨c0, c1, c2, hr, nodeIn_le hn hx⟩
/-- One element is put in its place. -/
theorem kidsAt_put {ok : Nat → Prop} {n : Nat} {w : World} {g len i : Nat} {hs : Nat → Bool} {szs : Nat → Nat} (h : KidsAt ok n w g len hs szs) (hg : ¬ ok g) {c0 c1 c2 : Value} {hx : Bool} {szx : Nat} (ht : w.there g (i * 3) 3) (hn : NodeIn ok n w (.agg #[c0, c1, c2]) hx szx) :
    KidsAt ok n (w.setCells g (i * 3) [c0, c1, c2]) g len (upd hs i hx) (upd szs i szx) := fun t ht' => by
  have hk : ∀ b, ok b → b < w.heap.size → (w.setCells g (i * 3) [c0, c1, c2]).heap[b]? = w.heap[b]? := fun b hb _ => heap_setCells_ne g _ _ _ b (fun e => hg (e ▸ hb))
  by_cases e : t = i
  · subst e
    refine ⟨c0, c1, c2, World.rangeAt_setCells_same w g (t * 3) [c0, c1, c2] ht, ?_⟩
    simp only [upd, if_true]
    exact nodeIn_keep n hn hk
  · obtain ⟨d0, d1, d2, hr, hn'⟩ := h t ht'
    refine ⟨d0, d1, d2, World.rangeAt_setCells_apart hr g (i * 3) [c0, c1, c2] (.inr (by simp; omega)), ?_⟩
    simp only [upd, if_neg e]
    exact nodeIn_keep n hn' hk

/-- What 'graft' does with a kid and the rest of the path, whatever is put there: the answer is 'ci', or that of what is put. -/
def GraftOk (n : Nat) (w : World) (t path : Value) (szt : Nat) (ci : Bool) : Prop :=
  ∀ (ok : Nat → Prop) (m : Nat) (sv : Value) (hv : Bool) (szv : Nat) (w1 : World), Below w.heap.size w w1 → (∀ b, b < w.heap.size → ok b) → (∀ b, w1.heap.size ≤ b → ok b) → NodeIn ok m w1 sv hv szv →
    Calls Try.prog 10 #[t, path, sv] w1 fun e w' => ∃ v' sz', e = .returned v' ∧ NodeIn ok (n + m) w' v' (ci || hv) sz' ∧ sz' ≤ szt + szv ∧ Below w1.heap.size w1 w'

set_option maxHeartbeats 4000000 in
set_option maxRecDepth 100000 in
theorem f10_go {okB : Nat → Prop} {n : Nat} (k : Int) (s : ByteArray) (b off len cap : Nat) (hs : Nat → Bool) (szs : Nat → Nat) (pb po plen pcap : Nat) (pa' : Option Addr) (hpa : (pcap = 1 ∧ pa' = some ⟨pb, po, none⟩) ∨ (pcap ≠ 1 ∧ pa' = some ⟨pb, po + 1, none⟩)) (i : Nat) (ci : Bool) (w : World)
    (hk : Kids okB n w (some ⟨b, off, none⟩) len hs szs) (hlen : len ≤ 26214) (hi : i < len) (hw : walkedK k i = true) (hp : 0 < plen) (hpc : plen ≤ pcap) (hpi : w.cell? ⟨pb, po, none⟩ = some (.int .i64 i))
    (hcall : ∀ c0 c1 c2, w.rangeAt b (off + i * 3) [c0, c1, c2] → GraftOk n w (.agg #[c0, c1, c2]) (.slice pa' (plen - 1) (pcap - 1)) (szs i) ci) :
    GraftOk (n + 1) w (.agg #[.int .u8 k, .string s, .slice (some ⟨b, off, none⟩) len cap]) (.slice (some ⟨pb, po, none⟩) plen pcap) (40 + s.size + sumTo len szs) (hasOf k s len (upd hs i ci)) := by
  intro ok m sv hv szv w1 hB hok1 hok2 hsv
  obtain ⟨k2, s2, a2, l2, p2, rfl⟩ := node_shape hsv
  have HSV := hide hsv
  have HK := hide hk
  have HCALL := hide hcall
  have HOK1 := hide hok1
  have HOK2 := hide hok2
  have HPA := hide hpa
  obtain ⟨x0, x1, x2, hrk⟩ : ∃ x0 x1 x2, w.rangeAt b (off + i * 3) [x0, x1, x2] := by
    obtain ⟨b', off', c0, c1, c2, ha, _, hr, _⟩ := hk i hi
    simp only [Option.some.injEq, Addr.mk.injEq, and_true] at ha
    obtain ⟨rfl, rfl⟩ := ha
    exact ⟨c0, c1, c2, hr⟩
  have HRK := hide hrk
  have hw1 : walkedI k len (i : Int) = true := by simp [walkedI, hw, hi]
  have HW := hide hw1
  have HWK := hide hw
  clear hsv hk hcall hok1 hok2 hpa hrk hw1 hw
  obtain ⟨W0, hW0⟩ : ∃ W0, W0 = ((w1.alloc (.cells #[.int .u8 k, .string s, .slice (some ⟨b, off, none⟩) len cap] 24)).alloc (.cells #[.int .u8 k2, .string s2, .slice a2 l2 p2] 24)).alloc (.cells #[.int .u8 0, .string ⟨#[]⟩, .slice none 0 0] 24) := ⟨_, rfl⟩
  have hp1 : ((plen : Int) == 0) = false := beq_eq_false_iff_ne.2 (by omega)
  have hp2 : (0 : Int) < (plen : Int) := by omega
  go_enter Try.func10, Try.ntmps10
  go_wp2_with fail
  rw [← hW0]
  have HC := hide (three_blocks hW0)
  have hB0 : Below w1.heap.size w1 W0 := HC.out.2.2.2.2
  have hi0 : W0.cell? ⟨pb, po, none⟩ = some (.int .i64 i) := cell_kept hB0 (Nat.le_refl _) (cell_kept hB (Nat.le_refl _) hpi)
  obtain ⟨d0, d1, d2⟩ := blk_cells HC.out.1
  clear hW0 hpi
  go_region_held3 (fun w' => w'.cell? ⟨w1.heap.size, 0, none⟩ = some (.int .u8 k) ∧ w'.cell? ⟨w1.heap.size, 1, none⟩ = some (.string s) ∧ w'.cell? ⟨w1.heap.size, 2, none⟩ = some (.slice (some ⟨b, off, none⟩) len cap) ∧ w'.cell? ⟨pb, po, none⟩ = some (.int .i64 i)) (first | go_keep | exact ⟨m0, m1, m2, m3⟩)
    (first
      | (go_at_call 20; refine (f20_any k s (some ⟨b, off, none⟩) len cap i _).mono ?_; rintro e w2 ⟨rfl, hb2⟩; obtain ⟨m0, m1, m2⟩ := cells_kept3 hb2 d0 d1 d2; have m3 := cell_kept (w := W0.drew) hb2 (Nat.le_refl _) hi0; rw [HW.out]))
  have hz0 := HC.out.2.2.2.1
  have hbD : Below W0.heap.size W0 w2 := ((Below.refl _ _).drew).trans hb2
  have hzD := hbD.size
  have B0 := hide (blk_kept HC.out.1 hbD (by omega))
  have B1 := hide (blk_kept HC.out.2.1 hbD (by omega))
  have B2 := hide (blk_kept HC.out.2.2.1 hbD (by omega))
  have hB2 : Below w1.heap.size w1 w2 := hB0.trans (hbD.mono hB0.size)
  clear HC hb2 hbD d0 d1 d2 hi0 hB0
  go_wp2_with (at_make; refine wpList_make_row _ rfl (.tmp 26) (.tmp 26) 22 rfl 24 _ 3 48 Try.underlying22 info24 _ _ _ _ len rfl rfl rfl rfl (by omega) (by omega) ?_)
  intro w3 hrow hb3 hz3
  obtain ⟨K0, hK0⟩ : ∃ K0, K0 = w2.heap.size := ⟨_, rfl⟩
  have HT : Hid (w3.there K0 0 (len * 3)) := by rw [hK0]; exact there_made hrow.out
  rw [← hK0] at hb3 hz3 ⊢
  have HK0 := hide hK0
  clear hK0 hrow
  have hzB := hB.size
  have hzB2 := hB2.size
  have hzK : w1.heap.size + 3 ≤ K0 := by have := HK0.out; omega
  have hbW3 : Below w.heap.size w w3 := (hB.trans (hB2.mono hB.size)).trans (hb3.mono (by have := HK0.out; omega))
  have hb3' : Below K0 w2 w3 := hb3
  have y2 : w3.cell? ⟨w1.heap.size, 2, none⟩ = some (.slice (some ⟨b, off, none⟩) len cap) := (blk_cells (blk_kept B0.out hb3' (by omega))).2.2
  obtain ⟨E, hEl, hEc, hE1, hEk⟩ := kids_list HK.out len (Nat.le_refl _)
  have HEL : Hid ((cellsE E).length = len * 3) := by show _ = _; rw [cellsE_length, hEl]
  have HEC : Hid (∀ j v, (cellsE E)[j]? = some v → w3.cell? ((⟨b, off, none⟩ : Addr).add j) = some v) := fun j v hv => by
    rw [Addr.add_mid]; exact cell_kept hbW3 (Nat.le_refl _) (hEc j v hv)
  have HE1 := hide hE1
  have HEK := hide hEk
  clear hEl hEc hE1 hEk
  go_wp2_with (refine wpList_copy_wide rfl (.tmp 28) (.tmp 30) 22 22 rfl 24 Try.underlying22 3 (by kernel_rfl) K0 len len ⟨b, off, none⟩ cap rfl rfl (cellsE E) HEL.out HEC.out HT.out HE1.out ?_)
  obtain ⟨w4, hw4⟩ : ∃ w4, w4 = w3.setCells K0 0 (cellsE E) := ⟨_, rfl⟩
  rw [← hw4]
  have hb4 : Below K0 w2 w4 := by rw [hw4]; exact hb3'.trans (below_setCells K0 (cellsE E) 0 w3)
  have hz4 : w4.heap.size = K0 + 1 := by rw [hw4, size_setCells]; exact hz3
  have hT4 : Hid (w4.there K0 0 (len * 3)) := by rw [hw4]; exact World.there_setCells HT.out K0 0 (cellsE E)
  have hbW4 : Below w.heap.size w w4 := by rw [hw4]; exact hbW3.trans ((below_setCells K0 (cellsE E) 0 w3).mono (by omega))
  have hKA : Hid (KidsAt (fun x => ok x ∧ x ≠ K0 ∧ x ≠ w1.heap.size + 1 + 1) n w4 K0 len hs szs) := by
    rw [hw4]
    exact kidsAt_copied HEL.out HT.out HEK.out hbW3 (fun x hx => ⟨HOK1.out x hx, by omega, by omega⟩) (fun x hx => by omega)
  have B1' := blk_kept B1.out hb4 (by omega)
  have B0' := blk_kept B0.out hb4 (by omega)
  have hSV4 : Hid (NodeIn (fun x => ok x ∧ x ≠ K0 ∧ x ≠ w1.heap.size + 1 + 1) m w4 (.agg #[.int .u8 k2, .string s2, .slice a2 l2 p2]) hv szv) :=
    nodeIn_kept m (nodeIn_mono m HSV.out (fun x hx hl => ⟨hx, by omega, by omega⟩)) (hB2.trans (hb4.mono (by omega)))
  obtain ⟨t0, t1, t2⟩ := blk_cells B0'
  obtain ⟨u0, u1, u2⟩ := blk_cells B1'
  obtain ⟨v0, v1, v2⟩ := cells3 (range_kept HRK.out hbW4)
  have hbK : b ≠ K0 := by have := range_block HRK.out; omega
  have hn0 : w1.heap.size ≠ K0 := by omega
  have hn1 : w1.heap.size + 1 ≠ K0 := by omega
  have i1 : (0 : Int) ≤ (i : Int) := by omega
  have i2 : (i : Int) < (len : Int) := by omega
  have i3 : (1 : Int) ≤ (plen : Int) := by omega
  have i4 : (plen : Int) ≤ (pcap : Int) := by omega
  have hszk : sumTo len szs = sumTo len szs := rfl
  clear hw4 y2 HT HEL HEC HE1 HEK hbW3 hb3 hb3' hz3 hszk B0' B1'
  rcases HPA.out with ⟨hpc1, rfl⟩ | ⟨hpc1, rfl⟩
  case' inl =>
    subst hpc1
    obtain rfl : plen = 1 := by omega
  all_goals
    go_region_held3 (fun w' => w'.cell? ⟨w1.heap.size, 2, none⟩ = some (.slice (some ⟨b, off, none⟩) len cap) ∧ w'.cell? ⟨w1.heap.size + 1, 0, none⟩ = some (.int .u8 k2) ∧ w'.cell? ⟨w1.heap.size + 1, 1, none⟩ = some (.string s2) ∧ w'.cell? ⟨w1.heap.size + 1, 2, none⟩ = some (.slice a2 l2 p2) ∧ w'.cell? ⟨b, off + i * 3, none⟩ = some x0 ∧ w'.cell? ⟨b, off + i * 3 + 1, none⟩ = some x1 ∧ w'.cell? ⟨b, off + i * 3 + 2, none⟩ = some x2)
      (first | exact ⟨t2, u0, u1, u2, v0, v1, v2⟩ | exact ⟨g0, g1, g2, g3, g4, g5, g6⟩ | exact ⟨far3 hn0 g0, far3 hn1 g1, far3 hn1 g2, far3 hn1 g3, far3 hbK g4, far3 hbK g5, far3 hbK g6⟩)
      (first
        | (go_at_call 10; refine (HCALL.out x0 x1 x2 HRK.out (fun x => ok x ∧ x ≠ K0 ∧ x ≠ w1.heap.size + 1 + 1) m _ hv szv w4.drew hbW4.drew (fun x hx => ⟨HOK1.out x hx, by omega, by omega⟩) ?_ (nodeIn_kept m hSV4.out (Below.refl _ _).drew)).mono ?_; (intro x hx; have hx' : w4.heap.size ≤ x := hx; exact ⟨HOK2.out x (by omega), by omega, by omega⟩); rintro e w5 ⟨v5, sz5, rfl, hn5, hsz5, hb5⟩; obtain ⟨k5, s5, a5, l5, p5, hv5⟩ := node_shape hn5; subst hv5; have HN5 := hide hn5; clear hn5; have g0 := cell_kept (w := w4.drew) hb5 (Nat.le_refl _) t2; have g1 := cell_kept (w := w4.drew) hb5 (Nat.le_refl _) u0; have g2 := cell_kept (w := w4.drew) hb5 (Nat.le_refl _) u1; have g3 := cell_kept (w := w4.drew) hb5 (Nat.le_refl _) u2; have g4 := cell_kept (w := w4.drew) hb5 (Nat.le_refl _) v0; have g5 := cell_kept (w := w4.drew) hb5 (Nat.le_refl _) v1; have g6 := cell_kept (w := w4.drew) hb5 (Nat.le_refl _) v2; obtain ⟨o0, o1, o2, q0, q1, q2, f0, f1, f2⟩ := there_three (there_part (there_kept (w := w4.drew) hT4.out (by show K0 < w4.heap.size; omega) hb5) (i * 3) 3 (by omega))))
    have hzz : w4.heap.size ≤ w5.heap.size := hb5.size
    have hb5' : Below w4.heap.size w4 w5 := ((Below.refl _ _).drew).trans hb5
    have hB5 : Below w1.heap.size w1 w5 := (hB2.trans (hb4.mono (by omega))).trans (hb5'.mono (by omega))
    have C0 := blk_kept (blk_kept B0.out hb4 (by omega)) hb5' (by omega)
    have C2 := blk_kept (blk_kept B2.out hb4 (by omega)) hb5' (by omega)
    have hKA5 : Hid (KidsAt (fun x => ok x ∧ x ≠ K0 ∧ x ≠ w1.heap.size + 1 + 1) (n + m) w5 K0 len hs szs) := kidsAt_le (by omega) (kidsAt_kept hKA.out hb5')
    have hT5 : Hid (w5.there K0 (i * 3) 3) := there_part (there_kept (w := w4.drew) hT4.out (by show K0 < w4.heap.size; omega) hb5) (i * 3) 3 (by omega)
    obtain ⟨w6, hw6⟩ : ∃ w6, w6 = w5.setCells K0 (i * 3) [.int .u8 k5, .string s5, .slice a5 l5 p5] := ⟨_, rfl⟩
    have hw6' : ((w5.setCell ⟨K0, i * 3, none⟩ (.int .u8 k5)).setCell ⟨K0, i * 3 + 1, none⟩ (.string s5)).setCell ⟨K0, i * 3 + 2, none⟩ (.slice a5 l5 p5) = w6 := hw6.symm
    rw [hw6']
    have hKA6 : Hid (KidsAt (fun x => ok x ∧ x ≠ K0 ∧ x ≠ w1.heap.size + 1 + 1) (n + m) w6 K0 len (upd hs i (ci || hv)) (upd szs i sz5)) := by
      rw [hw6]; exact kidsAt_put hKA5.out (fun h => h.2.1 rfl) hT5.out HN5.out
    have hb6 : Below K0 w5 w6 := by rw [hw6]; exact below_setCells K0 _ _ _
    have hB6 : Below w1.heap.size w1 w6 := hB5.trans (hb6.mono (by omega))
    have D0 := blk_kept C0 hb6 (by omega)
    have D2 := hide (blk_kept C2 hb6 (by omega))
    obtain ⟨s0, s1, s2'⟩ := blk_cells D0
    obtain ⟨r0, r1, r2⟩ := blk_cells D2.out
    have r3 : ∀ o, w6.frozen? ⟨w1.heap.size + 1 + 1, o, none⟩ = false := fun o => frozen_of_row _ _ _ _ _ D2.out
    clear hw6 hw6' g0 g1 g2 g3 g4 g5 g6 q0 q1 q2 f0 f1 f2 t0 t1 t2 u0 u1 u2 v0 v1 v2 C0 C2 D0 m0 m1 m2 m3
    go_wp2_with fail
    refine bodyPost_ret (v := .agg #[.int .u8 k, .string s, .slice (some ⟨K0, 0, none⟩) len len]) (by simp [results, Try.results10, go_sem, r0, r1, r2]) rfl ⟨_, 40 + s.size + sumTo len (upd szs i sz5), rfl, ?_, ?_, ?_⟩
    · rw [← hasOf_upd hi HWK.out, show n + 1 + m = n + m + 1 by omega]
      refine node_of_kids (g := K0) (kidsAt_keep hKA6.out ?_ (fun x hx => ?_) (fun x hx => hx.1)) (HOK2.out K0 (by omega)) k s (by omega)
      · exact heap_three w6 _ _ _ _ _ (by omega)
      · exact heap_three w6 _ _ _ _ _ hx.2.2
    · have := sumTo_upd (f := szs) (i := i) (x := sz5) (d := szv) hsz5 (n := len)
      omega
    · exact below_three hB6 (by omega) _ _ _

/-- 'graft': for each node and path there is one answer 'c' of the place itself: whatever is put there, the whole answers 'c', or what is put answers yes. -/
theorem f10_any {okB : Nat → Prop} : ∀ (n : Nat) (t : Value) (pa : Option Addr) (plen pcap : Nat) (ps : List Int) (ht : Bool) (szt : Nat) (w : World), NodeIn okB n w t ht szt → szt ≤ 1048576 → ps.length = plen → plen ≤ pcap → InInts w pa ps →
    ∃ c : Bool, GraftOk n w t (.slice pa plen pcap) szt c
  | 0, _, _, _, _, _, _, _, _, hn, _, _, _, _ => hn.elim
  | n + 1, t, pa, plen, pcap, ps, ht, szt, w, hn, hM, hps, hpc, hin => by
    obtain ⟨k, s, a, len, cap, hs, szs, rfl, hl, hk, _, rfl⟩ := hn
    have hge : 40 * len ≤ sumTo len szs := sumTo_ge (fun i hi => by obtain ⟨_, _, _, _, _, _, _, _, hkid⟩ := hk i hi; exact nodeIn_size hkid)
    have hlen : len ≤ 26214 := by omega
    by_cases h0 : plen = 0
    · subst h0
      refine ⟨false, fun ok m sv hv szv w1 hB hok1 hok2 hsv => ?_⟩
      obtain ⟨k2, s2, a2, l2, p2, rfl⟩ := node_shape hsv
      refine (f10_empty k s a len cap pa pcap k2 s2 a2 l2 p2 w1).mono ?_
      rintro e w' ⟨rfl, hb⟩
      exact ⟨_, szv, rfl, by rw [Bool.false_or]; exact nodeIn_le (by omega) (nodeIn_kept m hsv hb), by omega, hb⟩
    obtain ⟨pb, po, rfl, hp0⟩ := hin 0 (by omega)
    rw [Nat.add_zero] at hp0
    cases hw : walkedI k len (ps.getD 0 0) with
    | false =>
      refine ⟨false, fun ok m sv hv szv w1 hB hok1 hok2 hsv => ?_⟩
      obtain ⟨k2, s2, a2, l2, p2, rfl⟩ := node_shape hsv
      refine (f10_stop k s a len cap pb po plen pcap _ k2 s2 a2 l2 p2 w1 (by omega) (cell_kept hB (Nat.le_refl _) hp0) hw).mono ?_
      rintro e w' ⟨rfl, hb⟩
      exact ⟨_, szv, rfl, by rw [Bool.false_or]; exact nodeIn_le (by omega) (nodeIn_kept m hsv hb), by omega, hb⟩
    | true =>
      simp only [walkedI, Bool.and_eq_true, decide_eq_true_eq] at hw
      obtain ⟨⟨hw1, hw2⟩, hw3⟩ := hw
      obtain ⟨i, hi⟩ := Int.eq_ofNat_of_zero_le hw1
      rw [hi] at hw2 hw3 hp0
      rw [Int.toNat_natCast] at hw3
      have hil : i < len := by omega
      obtain ⟨b, off, c0, c1, c2, rfl, _, hr, hkid⟩ := hk i hil
      have hszi : szs i ≤ 1048576 := by have := sumTo_le (f := szs) hil; omega
      have key : ∃ pa', ((pcap = 1 ∧ pa' = some ⟨pb, po, none⟩) ∨ (pcap ≠ 1 ∧ pa' = some ⟨pb, po + 1, none⟩)) ∧ InInts w pa' ps.tail := by
        by_cases hc1 : pcap = 1
        · refine ⟨_, .inl ⟨hc1, rfl⟩, fun j hj => ?_⟩
          simp only [List.length_tail] at hj
          omega
        · refine ⟨_, .inr ⟨hc1, rfl⟩, fun j hj => ⟨pb, po + 1, rfl, ?_⟩⟩
          simp only [List.length_tail] at hj
          obtain ⟨b', o', ha, hc⟩ := hin (j + 1) (by omega)
          simp only [Option.some.injEq, Addr.mk.injEq, and_true] at ha
          obtain ⟨rfl, rfl⟩ := ha
          rw [show po + 1 + j = po + (j + 1) by omega, hc]
          simp [List.getD, List.getElem?_tail]
      obtain ⟨pa', hpa, hin'⟩ := key
      obtain ⟨ci, hci⟩ := f10_any n (.agg #[c0, c1, c2]) pa' (plen - 1) (pcap - 1) ps.tail (hs i) (szs i) w hkid hszi (by simp [hps]) (by omega) hin'
      refine ⟨_, f10_go k s b off len cap hs szs pb po plen pcap pa' hpa i ci w hk hlen hil hw3 (by omega) hpc hp0 (fun d0 d1 d2 hd => ?_)⟩
      have e0 := (cells3 hd).1.symm.trans (cells3 hr).1
      have e1 := (cells3 hd).2.1.symm.trans (cells3 hr).2.1
      have e2 := (cells3 hd).2.2.symm.trans (cells3 hr).2.2
      simp only [Option.some.injEq] at e0 e1 e2
      subst e0 e1 e2
      exact hci

end Go.Proofs.Qxb6614851a.Agg
