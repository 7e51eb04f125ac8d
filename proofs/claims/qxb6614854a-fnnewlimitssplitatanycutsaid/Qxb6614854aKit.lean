/-
  SMALL LAWS OF MY OWN over whatever program: a made row behind 'make', told as a block of the new world; cells and marks below a line.
-/
import Derived.WalkKit
import Derived.WalkLawsBesides
import Derived.WalkSpells
import Derived.Laws.CopyOwn
import Derived.Deep.MidRow
namespace Go.Proofs.Qxb6614854a.Kit
open Go.RowKit

/-- 'make([]T, n)': the new block is known whole; below it nothing has turned. -/
theorem wpList_make_row {P : Program} (w : World) {ops : Array Oper} {rest : List Oper} {o : Oper} {a : Act} {Q : Exit → Act → World → Prop}
    (hg : o.guard = none) (l c : Operand) (t : TypeId) (hop : o.op = Op.makeSlice t l c)
    (e : TypeId) (z : Value) (size bytes : Nat) (h1 : P.underlying t = some (.slice e)) (hinfo : (P.info? e).map (fun i => (i.zero, i.size, i.bytes)) = some (some z, size, bytes))
    (kl kc : IntKind) (L C : Int) (n : Nat) (hl : a.eval l = .int kl L) (hc : a.eval c = .int kc C) (hL : L = (n : Int)) (hC : C = (n : Int)) (b2 : bytes * n ≤ 281474976710656) (b3 : n ≤ 9223372036854775807)
    (hK : ∀ w', Hid (w'.heap[w.heap.size]? = some (.cells (madeCells z.cells (n * size)) e (0, 0))) → Below w.heap.size w w' → w'.heap.size = w.heap.size + 1 → wpList P ops Q rest (a.put o.dst (.slice (some ⟨w.heap.size, 0, none⟩) n n)) w') :
    wpList P ops Q (o :: rest) a w := by
  refine wpList_plain hg fun K hK' => ?_
  obtain ⟨i, hi, hz0, hz1, hz2⟩ := info_parts hinfo
  subst hL
  subst hC
  subst hz1
  subst hz2
  have hb : (i.bytes : Int) * (n : Int) ≤ 281474976710656 := by
    have h : ((i.bytes * n : Nat) : Int) ≤ 281474976710656 := by omega
    rwa [Int.natCast_mul] at h
  have hr := run_make (P := P) w t e i z h1 hi hz0 kl kc n n (by omega) (Int.le_refl _) hb (by omega)
  simp only [Int.toNat_natCast] at hr
  unfold Oper.wp
  simp [execOp, hop, hl, hc, hr, Result.andThen]
  refine hK' _ _ (hK _ (heap_alloc_new w _) ((Below.refl _ _).alloc (Nat.le_refl _) _) ?_)
  show (w.heap.push _).size = _
  simp

theorem size_new (w : World) (o : Obj) : (w.alloc o).heap.size = w.heap.size + 1 := by show (w.heap.push o).size = _; simp

/-- A fact kept from the walk. -/
theorem hide {p : Prop} (h : p) : Hid p := h

/-- All old cells and marks read as before. -/
theorem bcell {W w1 : World} (hb : Below W.heap.size W w1) : (∀ b o, b < W.heap.size → w1.cell? ⟨b, o, none⟩ = W.cell? ⟨b, o, none⟩) ∧ (∀ b o, b < W.heap.size → w1.frozen? ⟨b, o, none⟩ = W.frozen? ⟨b, o, none⟩) :=
  ⟨fun b o h => hb.cell (p := ⟨b, o, none⟩) h, fun b o h => hb.frozen (p := ⟨b, o, none⟩) h⟩

/-- A cell that is there lies below the heap's size: it reads so in every world in which nothing below has turned. -/
theorem cell_kept {B : Nat} {w w' : World} {a : Addr} {v : Value} (hb : Below B w w') (hB : w.heap.size ≤ B) (h : w.cell? a = some v) : w'.cell? a = some v := by
  have := block_lt_of_cell h
  rw [hb.cell (by omega)]; exact h

theorem below_setCells (b : Nat) : ∀ (vs : List Value) (o : Nat) (w : World), Below b w (w.setCells b o vs)
  | [], _, w => Below.refl _ _
  | v :: r, o, w => by
    rw [World.setCells]
    exact ((Below.refl b w).setCell (p := ⟨b, o, none⟩) (Nat.le_refl _) v).trans (below_setCells b r (o + 1) _)

theorem size_setCells (b : Nat) : ∀ (vs : List Value) (o : Nat) (w : World), (w.setCells b o vs).heap.size = w.heap.size
  | [], _, w => rfl
  | v :: r, o, w => by
    rw [World.setCells, size_setCells b r (o + 1)]
    simp [World.setCell]

/-- A whole struct stored at the head of the block b: the world behind it by what is known of it. -/
theorem wpList_store_abs {P : Program} {ops : Array Oper} {rest : List Oper} {op : Oper} {a : Act} {w : World} {Q : Exit → Act → World → Prop} (hgd : op.guard = none) (ty : TypeId) (x y : Operand) (ho : op.op = .store ty x y)
    (b o : Nat) (cells : List Value) (hx : a.eval x = .pointer (some ⟨b, o, none⟩)) (hy : a.eval y = .agg cells.toArray)
    (ht : w.there b o cells.length) (hi : (P.info? ty).map (·.size) = some cells.length) (h1 : cells.toArray.all (·.oneCell') = true)
    (h : ∀ w', w'.rangeAt b o cells → Below b w w' → w'.heap.size = w.heap.size → wpList P ops Q rest (a.put op.dst undef) w') : wpList P ops Q (op :: rest) a w :=
  wpList_store_mid hgd ty x y ho b o cells.toArray hx hy (by simpa using ht) (by simpa using hi) h1
    (h _ (by simpa using World.rangeAt_setCells_same w b o cells ht) (by simpa using below_setCells b cells o w) (by simpa using size_setCells b cells o w))

/-- The cells of a block that is known whole, none frozen, may be written. -/
theorem there_new (w : World) (cs : Array Value) (t : TypeId) (n : Nat) (hn : n ≤ cs.size) : (w.alloc (.cells cs t)).there w.heap.size 0 n := fun j hj => by
  rw [cell_of_row _ _ _ _ _ _ (heap_alloc_new w _)]
  refine ⟨?_, frozen_of_row _ _ _ _ _ (heap_alloc_new w _)⟩
  simp; omega

end Go.Proofs.Qxb6614854a.Kit
