/-
  '(*registerTally).add' (11).
-/
import Derived.Test.Qxb6608912aFmtTalA
import Derived.DeepKeys4
namespace Go.Proofs.Qxb6608912aFmt.Tal
open Go.RowKit Go.Extern.Stop Go.Stop Go.Extern Go.Maps

theorem laidOut : laidOutB Tryf.prog = true := by kernel_rfl
theorem row31 : (31 : TypeId) < Tryf.prog.types.size := of_decide_eq_true (by kernel_rfl)
theorem wide31 : (match Tryf.prog.underlying 31 with | some (.array _ _) | some (.struct _) => true | _ => false) = true := by rw [Tryf.underlying31]
theorem law : Keyed Tryf.prog 31 := Keyed.of_law (deep_law_laid laidOut (m := 2) (by omega) row31 (by kernel_rfl) wide31)
theorem zero22 (w : World) : (zeroValue 22).run Tryf.prog w = .ok (.int .u32 0) w := by kernel_rfl
theorem cells31 : Tryf.prog.cellsOf 31 = 2 := by kernel_rfl
theorem cells29 : Tryf.prog.cellsOf 29 = 1 := by kernel_rfl
theorem cells22 : Tryf.prog.cellsOf 22 = 1 := by kernel_rfl

/-- What a Register reads as, as a key. -/
def kl (k x : Int) : Lit := .string (keyBytes [.int .u8 k, .int .u32 x])
theorem keyLits_struct (d : Nat) (k x : Int) (h1 : (Lit.int .u8 k).wf = true) (h2 : (Lit.int .u32 x).wf = true) : Tryf.prog.keyLits (d + 2) 31 [.int .u8 k, .int .u32 x] = some [.int .u8 k, .int .u32 x] := by
  simp [Program.keyLits, Tryf.underlying31, Tryf.underlying29, Tryf.underlying22, cells31, cells29, cells22, h1, h2]
theorem size_types : ∃ d, Tryf.prog.types.size + 1 = d + 2 := ⟨Tryf.prog.types.size - 1, by have h : 31 < Tryf.prog.types.size := row31; omega⟩
theorem keyType31 : Tryf.prog.keyType 31 = true := by kernel_rfl
theorem key_of (k x : Int) (h1 : (Lit.int .u8 k).wf = true) (h2 : (Lit.int .u32 x).wf = true) : keyOf Tryf.prog 31 (.agg #[.int .u8 k, .int .u32 x]) = some (kl k x) := by
  obtain ⟨d, hd⟩ := size_types
  have hf : (Value.agg #[.int .u8 k, .int .u32 x]).formed Tryf.prog 31 = true := by simp [Value.formed, Tryf.underlying31, cells31]
  have hc : (Value.agg #[.int .u8 k, .int .u32 x]).cells.toList = [.int .u8 k, .int .u32 x] := rfl
  unfold keyOf
  rw [Tryf.underlying31]
  simp only [keyType31, hf, Bool.and_self, if_true, hc, hd, keyLits_struct d k x h1 h2, Option.map_some, kl]
theorem kl_inj {k x k' x' : Int} (h1 : (Lit.int .u8 k).wf = true) (h2 : (Lit.int .u32 x).wf = true) (h1' : (Lit.int .u8 k').wf = true) (h2' : (Lit.int .u32 x').wf = true) (h : kl k x = kl k' x') : k = k' ∧ x = x' := by
  have := law.inj (key_of k x h1 h2) (by rw [key_of k' x' h1' h2', h])
  simpa using this
theorem kl_key {k x : Int} (h1 : (Lit.int .u8 k).wf = true) (h2 : (Lit.int .u32 x).wf = true) : WideAt.IsKeyLit (kl k x) := law.key (key_of k x h1 h2)

theorem eqMap_some (M : Nat) (w : World) : (binOp BinOp.eql 38 (.map (some M)) (.map none)).run Tryf.prog w = .ok (.bool false) w := by kernel_rfl
theorem eqMap_nil (w : World) : (binOp BinOp.eql 38 (.map none) (.map none)).run Tryf.prog w = .ok (.bool true) w := by kernel_rfl
attribute [local go_sem] eqMap_some eqMap_nil

/-- The map's word for a world. -/
def Own (w : World) (M n : Nat) (D : DataW Unit) : Prop := w.ownsMap Tryf.prog 31 (plainElem Tryf.prog 22) M n D

theorem look_fact {w : World} {M n : Nat} {D : DataW Unit} (h : Own w M n D) {k x z : Int} (h1 : (Lit.int .u8 k).wf = true) (h2 : (Lit.int .u32 x).wf = true) (hat : D.atKey (kl k x) (.lit (.int .u32 0)) = .lit (.int .u32 z)) :
    (Instr.lookup 38 (.map (some M)) (.agg #[.int .u8 k, .int .u32 x]) true).run Tryf.prog w = .ok (.tuple #[.int .u32 z, .bool (Maps.has D (kl k x))]) w := by
  obtain ⟨v, ps, hrun, hv⟩ := World.ownsMap.look_ok h law Tryf.underlying38 (zero22 w) (plainElem_int Tryf.underlying22 (by decide)) (key_of k x h1 h2)
  obtain ⟨c, rfl, hc, _⟩ := plainElem_int_inv Tryf.underlying22 hv
  rw [hat] at hc
  simp only [Prod.mk.injEq, DataW.lit.injEq, Lit.int.injEq, true_and] at hc
  rw [hrun, hc.1]

theorem own_kept {w w' : World} {M n : Nat} {D : DataW Unit} (h : Own w M n D) (hb : Below w.heap.size w w') : Own w' M n D :=
  World.ownsMap.kept (row := none) h ⟨hb.os, hb.tape, hb.output, hb.size, fun k hk _ => hb.block k hk⟩ (by simp)

set_option maxHeartbeats 800000 in
/-- 'add', refused. -/
theorem f11_refused (F : Interp) (k x : Int) (T M n : Nat) (D : DataW Unit) (w : World) (hF : F.answers w.tape) (h1 : (Lit.int .u8 k).wf = true) (h2 : (Lit.int .u32 x).wf = true)
    (c0 : w.cell? ⟨T, 0, none⟩ = some (.map (some M))) (hown : Own w M n D) (hh : Maps.has D (kl k x) = false) (hs : 1024 ≤ Maps.size D) :
    Calls Tryf.prog 11 #[.pointer (some ⟨T, 0, none⟩), .agg #[.int .u8 k, .int .u32 x]] w fun e w' => (∃ a, e = .returned (.tuple #[.int .u32 0, .iface 52 (.pointer (some a))])) ∧ Below w.heap.size w w' := by
  have hlook : ∀ (o : Obj) (j : Nat), (Instr.lookup 38 (.map (some M)) (.agg #[.int .u8 k, .int .u32 x]) true).run Tryf.prog ((w.alloc o).drewN j) = .ok (.tuple #[.int .u32 0, .bool false]) ((w.alloc o).drewN j) := fun o j => by
    have := look_fact (w := (w.alloc o).drewN j) (own_kept hown (below_drewN ((Below.refl _ _).alloc (Nat.le_refl _) o) j)) h1 h2 (z := 0) (atKey_of_not_has hh _)
    rwa [hh] at this
  have hlen : ∀ (o : Obj) (j : Nat), (Builtin.len_ #[38] 3 #[.map (some M)]).run Tryf.prog ((w.alloc o).drewN j) = .ok (.int .i64 (Maps.size D)) ((w.alloc o).drewN j) := fun o j =>
    World.ownsMap.len (own_kept hown (below_drewN ((Below.refl _ _).alloc (Nat.le_refl _) o) j)) Tryf.underlying38 3
  have cT : ∀ (o : Obj), (w.alloc o).cell? ⟨T, 0, none⟩ = some (.map (some M)) := fun o => cell_kept ((Below.refl _ _).alloc (Nat.le_refl _) o) (Nat.le_refl _) c0
  have hs3 : (1024 : Int) ≤ (Maps.size D : Int) := by omega
  have HF := hide hF
  clear hown hh hF
  generalize Maps.size D = N at hlen hs3
  go_enter Tryf.func11, Tryf.ntmps11
  go_wp2_with fail
  go_quiet (fail)
  go_wp2_with fail
  have hr : ∀ (A C : Obj), (((w.alloc A).drewN nq).alloc C).heap[w.heap.size + 1]? = some C := fun A C => heap_alloc2_new w A C
  refine (f13_any F k x (w.heap.size + 1) _ (by exact HF.out) (by rw [cell_of_row _ _ _ _ _ _ (hr _ _)]; rfl) (by rw [cell_of_row _ _ _ _ _ _ (hr _ _)]; rfl) (by rw [cell_of_row _ _ _ _ _ _ (hr _ _)]; rfl)).mono ?_
  rintro e w' ⟨⟨a, rfl⟩, hb⟩
  have hb2 : Below w.heap.size w w' := by
    have h0 := below_drewN ((Below.refl _ w).alloc (Nat.le_refl _) (.cells #[.int .u8 k, .int .u32 x] 31)) nq
    have h1 := h0.alloc h0.size (.cells #[.iface 31 (.agg #[.int .u8 k, .int .u32 x]), .iface 3 (.int .i64 1025), .iface 3 (.int .i64 1024)] 20)
    exact h1.trans (hb.mono h1.size)
  clear hb hr
  go_wp2_with fail
  go_ret2
  exact ⟨⟨a, rfl⟩, hb2⟩

theorem upd_fact {w : World} {M n : Nat} {D : DataW Unit} (h : Own w M n D) (hn : n ≤ 1000000) {k x z : Int} (h1 : (Lit.int .u8 k).wf = true) (h2 : (Lit.int .u32 x).wf = true) (hz : (Lit.int .u32 z).wf = true) :
    ∃ w', (Instr.mapUpdate 38 (.map (some M)) (.agg #[.int .u8 k, .int .u32 x]) (.int .u32 z)).run Tryf.prog w = .ok () w' ∧ Own w' M (n + 1) (D.put (kl k x) (.lit (.int .u32 z))) ∧ w.grownBy w' (some M) :=
  World.ownsMap.update h law Tryf.underlying38 (by unfold maxLen; omega) (key_of k x h1 h2) (plainElem_int Tryf.underlying22 hz)

set_option maxRecDepth 100000 in
set_option maxHeartbeats 800000 in
/-- 'add', counted in the map that is there. -/
theorem f11_some (k x z : Int) (T M n : Nat) (D : DataW Unit) (w : World) (h1 : (Lit.int .u8 k).wf = true) (h2 : (Lit.int .u32 x).wf = true) (hz0 : 0 ≤ z) (hz1 : z ≤ 1000) (hn : n ≤ 1000000)
    (c0 : w.cell? ⟨T, 0, none⟩ = some (.map (some M))) (hown : Own w M n D) (hh : Maps.has D (kl k x) = true ∨ Maps.size D < 1024) (hat : D.atKey (kl k x) (.lit (.int .u32 0)) = .lit (.int .u32 z)) :
    Calls Tryf.prog 11 #[.pointer (some ⟨T, 0, none⟩), .agg #[.int .u8 k, .int .u32 x]] w fun e w' => e = .returned (.tuple #[.int .u32 z, .nilIface]) ∧ Own w' M (n + 1) (D.put (kl k x) (.lit (.int .u32 (z + 1)))) ∧ w.grownBy w' (some M) := by
  have hlook : ∀ (o : Obj) (j : Nat), (Instr.lookup 38 (.map (some M)) (.agg #[.int .u8 k, .int .u32 x]) true).run Tryf.prog ((w.alloc o).drewN j) = .ok (.tuple #[.int .u32 z, .bool (Maps.has D (kl k x))]) ((w.alloc o).drewN j) := fun o j =>
    look_fact (w := (w.alloc o).drewN j) (own_kept hown (below_drewN ((Below.refl _ _).alloc (Nat.le_refl _) o) j)) h1 h2 hat
  have hlen : ∀ (o : Obj) (j : Nat), (Builtin.len_ #[38] 3 #[.map (some M)]).run Tryf.prog ((w.alloc o).drewN j) = .ok (.int .i64 (Maps.size D)) ((w.alloc o).drewN j) := fun o j =>
    World.ownsMap.len (own_kept hown (below_drewN ((Below.refl _ _).alloc (Nat.le_refl _) o) j)) Tryf.underlying38 3
  have hupd0 : ∀ (q : Obj × Nat), ∃ w', (Instr.mapUpdate 38 (.map (some M)) (.agg #[.int .u8 k, .int .u32 x]) (.int .u32 (z + 1))).run Tryf.prog ((w.alloc q.1).drewN q.2) = .ok () w' ∧ Own w' M (n + 1) (D.put (kl k x) (.lit (.int .u32 (z + 1)))) ∧ ((w.alloc q.1).drewN q.2).grownBy w' (some M) := fun q =>
    upd_fact (w := (w.alloc q.1).drewN q.2) (own_kept hown (below_drewN ((Below.refl _ _).alloc (Nat.le_refl _) q.1) q.2)) hn h1 h2 (by simp [Lit.wf, IntKind.min, IntKind.max, IntKind.signed, IntKind.bits]; omega)
  obtain ⟨u, hu⟩ := Classical.skolem.1 hupd0
  have hupd : ∀ (o : Obj) (j : Nat), (Instr.mapUpdate 38 (.map (some M)) (.agg #[.int .u8 k, .int .u32 x]) (.int .u32 (z + 1))).run Tryf.prog ((w.alloc o).drewN j) = .ok () (u (o, j)) := fun o j => (hu (o, j)).1
  have HU : Hid (∀ (o : Obj) (j : Nat), Own (u (o, j)) M (n + 1) (D.put (kl k x) (.lit (.int .u32 (z + 1)))) ∧ w.grownBy (u (o, j)) (some M)) := fun o j => ⟨(hu (o, j)).2.1, by
    have h := (hu (o, j)).2.2
    have hb := below_drewN ((Below.refl _ w).alloc (Nat.le_refl _) o) j
    exact ⟨h.os.trans hb.os, h.tape.trans hb.tape, h.output.trans hb.output, Nat.le_trans hb.size h.size, fun i hi hne => (h.block i (Nat.lt_of_lt_of_le hi hb.size) hne).trans (hb.block i hi)⟩⟩
  have cT : ∀ (o : Obj), (w.alloc o).cell? ⟨T, 0, none⟩ = some (.map (some M)) := fun o => cell_kept ((Below.refl _ _).alloc (Nat.le_refl _) o) (Nat.le_refl _) c0
  clear hu hupd0 hown hat
  cases hb : Maps.has D (kl k x) with
  | true =>
    rw [hb] at hlook
    clear hh hb hlen
    go_enter Tryf.func11, Tryf.ntmps11
    go_wp2_with fail
    go_quiet (fail)
    go_wp2_with fail
    go_region
    all_goals go_wp2_with fail
    all_goals go_ret2
    all_goals exact ⟨rfl, HU.out _ _⟩
  | false =>
    rw [hb] at hlook
    have hs3 : ¬ (1024 : Int) ≤ (Maps.size D : Int) := by
      rcases hh with h | h
      · rw [hb] at h; cases h
      · omega
    clear hh hb
    generalize Maps.size D = N at hlen hs3
    go_enter Tryf.func11, Tryf.ntmps11
    go_wp2_with fail
    go_quiet (fail)
    go_wp2_with fail
    go_region
    all_goals go_wp2_with fail
    all_goals go_ret2
    all_goals exact ⟨rfl, HU.out _ _⟩

theorem look_nil_fact (w : World) {k x : Int} (h1 : (Lit.int .u8 k).wf = true) (h2 : (Lit.int .u32 x).wf = true) :
    (Instr.lookup 38 (.map none) (.agg #[.int .u8 k, .int .u32 x]) true).run Tryf.prog w = .ok (.tuple #[.int .u32 0, .bool false]) w :=
  Maps.look_nil true law Tryf.underlying38 (zero22 w) (key_of k x h1 h2)

set_option maxRecDepth 100000 in
set_option maxHeartbeats 800000 in
/-- 'add', the first of all: the map is made. -/
theorem f11_nil (k x : Int) (T : Nat) (w : World) (h1 : (Lit.int .u8 k).wf = true) (h2 : (Lit.int .u32 x).wf = true)
    (hT : w.heap[T]? = some (.cells #[.map none] 40 (0, 0))) :
    Calls Tryf.prog 11 #[.pointer (some ⟨T, 0, none⟩), .agg #[.int .u8 k, .int .u32 x]] w fun e w' => e = .returned (.tuple #[.int .u32 0, .nilIface]) ∧ w'.heap[T]? = some (.cells #[.map (some (w.heap.size + 1))] 40 (0, 0)) ∧ Own w' (w.heap.size + 1) 1 (DataW.put (.map []) (kl k x) (.lit (.int .u32 1))) ∧ w.grownBy w' (some T) := by
  have hlook : ∀ (o : Obj) (j : Nat), (Instr.lookup 38 (.map none) (.agg #[.int .u8 k, .int .u32 x]) true).run Tryf.prog ((w.alloc o).drewN j) = .ok (.tuple #[.int .u32 0, .bool false]) ((w.alloc o).drewN j) := fun o j => look_nil_fact _ h1 h2
  have hlen : ∀ (o : Obj) (j : Nat), (Builtin.len_ #[38] 3 #[.map none]).run Tryf.prog ((w.alloc o).drewN j) = .ok (.int .i64 0) ((w.alloc o).drewN j) := fun o j => Maps.len_nil Tryf.underlying38 3
  have hmm := @run_makeMap Tryf.prog
  have HT := hide hT
  have c0 : w.cell? ⟨T, 0, none⟩ = some (.map none) := by rw [cell_of_row _ _ _ _ _ _ hT]; rfl
  have f0 : w.frozen? ⟨T, 0, none⟩ = false := frozen_of_row _ _ _ _ _ hT
  have cT : ∀ (o : Obj), (w.alloc o).cell? ⟨T, 0, none⟩ = some (.map none) := fun o => cell_kept ((Below.refl _ _).alloc (Nat.le_refl _) o) (Nat.le_refl _) c0
  have hb2 : ∀ (o o2 : Obj) (j : Nat), Below w.heap.size w (((w.alloc o).drewN j).alloc o2) := fun o o2 j => by
    have h0 := below_drewN ((Below.refl _ w).alloc (Nat.le_refl _) o) j
    exact h0.alloc h0.size o2
  have HB2 := hide hb2
  have hTl := block_lt_of_cell c0
  simp only at hTl
  have cT2 : ∀ (o o2 : Obj) (j : Nat), (((w.alloc o).drewN j).alloc o2).cell? ⟨T, 0, none⟩ = some (.map none) := fun o o2 j => cell_kept (hb2 o o2 j) (Nat.le_refl _) c0
  have fT2 : ∀ (o o2 : Obj) (j : Nat), (((w.alloc o).drewN j).alloc o2).frozen? ⟨T, 0, none⟩ = false := fun o o2 j => by rw [(hb2 o o2 j).frozen (p := ⟨T, 0, none⟩) hTl, f0]
  clear hT hb2
  go_enter Tryf.func11, Tryf.ntmps11
  go_wp2_with fail
  go_quiet (fail)
  go_wp2_with fail
  obtain ⟨W3, hW3⟩ : ∃ W3, W3 = (((w.alloc (.cells #[.int .u8 k, .int .u32 x] 31)).drewN nq).setCell ⟨T, 0, none⟩ (.map (some (w.heap.size + 1)))).alloc (.map #[] 0) := ⟨_, rfl⟩
  rw [← hW3]
  have hne : w.heap.size ≠ T := by omega
  have sz0 : (((w.alloc (.cells #[.int .u8 k, .int .u32 x] 31)).drewN nq).setCell ⟨T, 0, none⟩ (.map (some (w.heap.size + 1)))).heap.size = w.heap.size + 1 := by
    have e : ∀ (W : World) (v : Value), (W.setCell ⟨T, 0, none⟩ v).heap.size = W.heap.size := fun W v => by simp [World.setCell]
    rw [e]; exact size_new w _
  have old : ∀ i, i < w.heap.size → ((w.alloc (.cells #[.int .u8 k, .int .u32 x] 31)).drewN nq).heap[i]? = w.heap[i]? := fun i hi => Below.heap_alloc w _ i hi
  have gT : W3.heap[T]? = some (.cells #[.map (some (w.heap.size + 1))] 40 (0, 0)) := by
    rw [hW3, Below.heap_alloc _ _ _ (by rw [sz0]; omega)]
    exact heap_setCell_same _ T 0 #[.map none] 40 _ ((old T hTl).trans HT.out)
  have gR : W3.heap[w.heap.size]? = some (.cells #[.int .u8 k, .int .u32 x] 31 (0, 0)) := by
    rw [hW3, Below.heap_alloc _ _ _ (by rw [sz0]; omega), heap_setCell_other _ _ _ _ hne]
    exact heap_alloc_new w _
  have gM : Own W3 (w.heap.size + 1) 0 (.map []) := by
    have h := World.ownsMap_made (H := Unit) (((w.alloc (.cells #[.int .u8 k, .int .u32 x] 31)).drewN nq).setCell ⟨T, 0, none⟩ (.map (some (w.heap.size + 1)))) Tryf.prog 31 (plainElem Tryf.prog 22)
    rw [sz0] at h
    rw [hW3]
    exact h
  have gG : w.grownBy W3 (some T) := by
    refine ⟨by rw [hW3]; rfl, by rw [hW3]; rfl, by rw [hW3]; rfl, by rw [hW3, size_new, sz0]; omega, fun i hi hi2 => ?_⟩
    rw [hW3, Below.heap_alloc _ _ _ (by rw [sz0]; omega), heap_setCell_other _ _ _ _ (fun e => hi2 (by rw [e])), old i hi]
  have zs3 : W3.heap.size = w.heap.size + 2 := by rw [hW3, size_new, sz0]
  have r0 : W3.cell? ⟨w.heap.size, 0, none⟩ = some (.int .u8 k) := by rw [cell_of_row _ _ _ _ _ _ gR]; rfl
  have r1 : W3.cell? ⟨w.heap.size, 1, none⟩ = some (.int .u32 x) := by rw [cell_of_row _ _ _ _ _ _ gR]; rfl
  have r2 : W3.cell? ⟨T, 0, none⟩ = some (.map (some (w.heap.size + 1))) := by rw [cell_of_row _ _ _ _ _ _ gT]; rfl
  obtain ⟨u, hupd, hu2, h⟩ := upd_fact (w := W3.drew) (k := k) (x := x) (z := 1) (World.ownsMap.drew gM) (by omega) h1 h2 (by decide)
  have HU : Hid (u.heap[T]? = some (.cells #[.map (some (w.heap.size + 1))] 40 (0, 0)) ∧ Own u (w.heap.size + 1) 1 (DataW.put (.map []) (kl k x) (.lit (.int .u32 1))) ∧ w.grownBy u (some T)) := by
    refine ⟨?_, hu2, ⟨h.os.trans gG.os, h.tape.trans gG.tape, h.output.trans gG.output, Nat.le_trans gG.size h.size, fun i hi hne => ?_⟩⟩
    · rw [h.block T (by show T < W3.heap.size; omega) (by simp; omega)]; exact gT
    · rw [h.block i (by show i < W3.heap.size; omega) (by simp; omega)]; exact gG.block i hi hne
  clear h hu2 gT gR gM gG zs3 hW3 sz0 old hmm cT2 fT2 hlook hlen cT c0 f0
  go_region
  all_goals go_wp2_with fail
  all_goals go_ret2
  all_goals exact ⟨rfl, HU.out⟩
end Go.Proofs.Qxb6608912aFmt.Tal
