/-
  WHAT A parser.Expr IS IN MEMORY; 'containsAggregate' (18).
-/
import Derived.Test.Qxb6614851aAggB
namespace Go.Proofs.Qxb6614851a.Agg
open Go.RowKit Go.Proofs.Qxb6614851a.Kit

/-- In the world w the interface value v is an expression of depth at most n, whose memory lies in blocks that are 'ok'; 'h': it holds a call of an aggregate. -/
def ExprIn (ok : Nat → Prop) : Nat → World → Value → Bool → Prop
  | 0, _, v, h => v = .nilIface ∧ h = false
  | n + 1, w, v, h => (v = .nilIface ∧ h = false) ∨ (∃ p, v = .iface 87 (.pointer (some p)) ∧ h = false) ∨ (∃ p, v = .iface 90 (.pointer (some p)) ∧ h = false) ∨
      (∃ b s a len cap hs, v = .iface 73 (.pointer (some ⟨b, 0, none⟩)) ∧ ok b ∧ w.cell? ⟨b, 0, none⟩ = some (.string s) ∧ w.cell? ⟨b, 2, none⟩ = some (.slice a len cap) ∧ len ≤ 9223372036854775807 ∧
        (∀ i, i < len → ∃ b' off c, a = some ⟨b', off, none⟩ ∧ ok b' ∧ w.cell? ⟨b', off + i, none⟩ = some c ∧ ExprIn ok n w c (hs i)) ∧ h = (aggName s || anyTo len hs)) ∨
      (∃ b x, v = .iface 77 (.pointer (some ⟨b, 0, none⟩)) ∧ ok b ∧ w.cell? ⟨b, 1, none⟩ = some x ∧ ExprIn ok n w x h) ∨
      (∃ b x y hx hy, v = .iface 80 (.pointer (some ⟨b, 0, none⟩)) ∧ ok b ∧ w.cell? ⟨b, 1, none⟩ = some x ∧ w.cell? ⟨b, 2, none⟩ = some y ∧ ExprIn ok n w x hx ∧ ExprIn ok n w y hy ∧ h = (hx || hy)) ∨
      (∃ b x, v = .iface 83 (.pointer (some ⟨b, 0, none⟩)) ∧ ok b ∧ w.cell? ⟨b, 0, none⟩ = some x ∧ ExprIn ok n w x h)

theorem exprIn_keep {ok : Nat → Prop} : ∀ (n : Nat) {w w' : World} {v : Value} {h : Bool}, ExprIn ok n w v h → (∀ b, ok b → b < w.heap.size → w'.heap[b]? = w.heap[b]?) → ExprIn ok n w' v h
  | 0, _, _, _, _, hn, _ => hn
  | n + 1, w, w', v, h, hn, hb => by
    have hc : ∀ {b o : Nat} {u : Value}, ok b → w.cell? ⟨b, o, none⟩ = some u → w'.cell? ⟨b, o, none⟩ = some u := fun {b o u} hok hu => by
      rw [World.cell?_of_block (a := ⟨b, o, none⟩) (hb b hok (block_lt_of_cell hu))]; exact hu
    rcases hn with h1 | h1 | h1 | ⟨b, s, a, len, cap, hs, hv, hok, h1, h2, hl, hk, hh⟩ | ⟨b, x, hv, hok, h1, hx⟩ | ⟨b, x, y, ex, ey, hv, hok, h1, h2, hx, hy, hh⟩ | ⟨b, x, hv, hok, h1, hx⟩
    · exact .inl h1
    · exact .inr (.inl h1)
    · exact .inr (.inr (.inl h1))
    · refine .inr (.inr (.inr (.inl ⟨b, s, a, len, cap, hs, hv, hok, hc hok h1, hc hok h2, hl, fun i hi => ?_, hh⟩)))
      obtain ⟨b', off, c, ha, hok', h3, hx⟩ := hk i hi
      exact ⟨b', off, c, ha, hok', hc hok' h3, exprIn_keep n hx hb⟩
    · exact .inr (.inr (.inr (.inr (.inl ⟨b, x, hv, hok, hc hok h1, exprIn_keep n hx hb⟩))))
    · exact .inr (.inr (.inr (.inr (.inr (.inl ⟨b, x, y, ex, ey, hv, hok, hc hok h1, hc hok h2, exprIn_keep n hx hb, exprIn_keep n hy hb, hh⟩)))))
    · exact .inr (.inr (.inr (.inr (.inr (.inr ⟨b, x, hv, hok, hc hok h1, exprIn_keep n hx hb⟩)))))

theorem exprIn_kept {ok : Nat → Prop} (n : Nat) {w w' : World} {v : Value} {h : Bool} (hn : ExprIn ok n w v h) (hb : Below w.heap.size w w') : ExprIn ok n w' v h := exprIn_keep n hn (fun b _ hl => hb.block b hl)

theorem exprIn_mono {ok ok' : Nat → Prop} : ∀ (n : Nat) {w : World} {v : Value} {h : Bool}, ExprIn ok n w v h → (∀ b, ok b → ok' b) → ExprIn ok' n w v h
  | 0, _, _, _, hn, _ => hn
  | n + 1, w, v, h, hn, hb => by
    rcases hn with h1 | h1 | h1 | ⟨b, s, a, len, cap, hs, hv, hok, h1, h2, hl, hk, hh⟩ | ⟨b, x, hv, hok, h1, hx⟩ | ⟨b, x, y, ex, ey, hv, hok, h1, h2, hx, hy, hh⟩ | ⟨b, x, hv, hok, h1, hx⟩
    · exact .inl h1
    · exact .inr (.inl h1)
    · exact .inr (.inr (.inl h1))
    · refine .inr (.inr (.inr (.inl ⟨b, s, a, len, cap, hs, hv, hb b hok, h1, h2, hl, fun i hi => ?_, hh⟩)))
      obtain ⟨b', off, c, ha, hok', h3, hx⟩ := hk i hi
      exact ⟨b', off, c, ha, hb b' hok', h3, exprIn_mono n hx hb⟩
    · exact .inr (.inr (.inr (.inr (.inl ⟨b, x, hv, hb b hok, h1, exprIn_mono n hx hb⟩))))
    · exact .inr (.inr (.inr (.inr (.inr (.inl ⟨b, x, y, ex, ey, hv, hb b hok, h1, h2, exprIn_mono n hx hb, exprIn_mono n hy hb, hh⟩)))))
    · exact .inr (.inr (.inr (.inr (.inr (.inr ⟨b, x, hv, hb b hok, h1, exprIn_mono n hx hb⟩)))))

/-! The type switch: each case against each dynamic type that comes up. -/
theorem ta_nil_73 (w : World) : (Instr.typeAssert .nilIface 58 73 true).run Try.prog w = .ok (.tuple #[.pointer none, .bool false]) w := by kernel_rfl
theorem ta_87_73 (v : Value) (w : World) : (Instr.typeAssert (.iface 87 v) 58 73 true).run Try.prog w = .ok (.tuple #[.pointer none, .bool false]) w := by kernel_rfl
theorem ta_90_73 (v : Value) (w : World) : (Instr.typeAssert (.iface 90 v) 58 73 true).run Try.prog w = .ok (.tuple #[.pointer none, .bool false]) w := by kernel_rfl
theorem ta_73_73 (v : Value) (w : World) : (Instr.typeAssert (.iface 73 v) 58 73 true).run Try.prog w = .ok (.tuple #[v, .bool true]) w := by kernel_rfl
theorem ta_77_73 (v : Value) (w : World) : (Instr.typeAssert (.iface 77 v) 58 73 true).run Try.prog w = .ok (.tuple #[.pointer none, .bool false]) w := by kernel_rfl
theorem ta_80_73 (v : Value) (w : World) : (Instr.typeAssert (.iface 80 v) 58 73 true).run Try.prog w = .ok (.tuple #[.pointer none, .bool false]) w := by kernel_rfl
theorem ta_83_73 (v : Value) (w : World) : (Instr.typeAssert (.iface 83 v) 58 73 true).run Try.prog w = .ok (.tuple #[.pointer none, .bool false]) w := by kernel_rfl
theorem ta_nil_77 (w : World) : (Instr.typeAssert .nilIface 58 77 true).run Try.prog w = .ok (.tuple #[.pointer none, .bool false]) w := by kernel_rfl
theorem ta_87_77 (v : Value) (w : World) : (Instr.typeAssert (.iface 87 v) 58 77 true).run Try.prog w = .ok (.tuple #[.pointer none, .bool false]) w := by kernel_rfl
theorem ta_90_77 (v : Value) (w : World) : (Instr.typeAssert (.iface 90 v) 58 77 true).run Try.prog w = .ok (.tuple #[.pointer none, .bool false]) w := by kernel_rfl
theorem ta_73_77 (v : Value) (w : World) : (Instr.typeAssert (.iface 73 v) 58 77 true).run Try.prog w = .ok (.tuple #[.pointer none, .bool false]) w := by kernel_rfl
theorem ta_77_77 (v : Value) (w : World) : (Instr.typeAssert (.iface 77 v) 58 77 true).run Try.prog w = .ok (.tuple #[v, .bool true]) w := by kernel_rfl
theorem ta_80_77 (v : Value) (w : World) : (Instr.typeAssert (.iface 80 v) 58 77 true).run Try.prog w = .ok (.tuple #[.pointer none, .bool false]) w := by kernel_rfl
theorem ta_83_77 (v : Value) (w : World) : (Instr.typeAssert (.iface 83 v) 58 77 true).run Try.prog w = .ok (.tuple #[.pointer none, .bool false]) w := by kernel_rfl
theorem ta_nil_80 (w : World) : (Instr.typeAssert .nilIface 58 80 true).run Try.prog w = .ok (.tuple #[.pointer none, .bool false]) w := by kernel_rfl
theorem ta_87_80 (v : Value) (w : World) : (Instr.typeAssert (.iface 87 v) 58 80 true).run Try.prog w = .ok (.tuple #[.pointer none, .bool false]) w := by kernel_rfl
theorem ta_90_80 (v : Value) (w : World) : (Instr.typeAssert (.iface 90 v) 58 80 true).run Try.prog w = .ok (.tuple #[.pointer none, .bool false]) w := by kernel_rfl
theorem ta_73_80 (v : Value) (w : World) : (Instr.typeAssert (.iface 73 v) 58 80 true).run Try.prog w = .ok (.tuple #[.pointer none, .bool false]) w := by kernel_rfl
theorem ta_77_80 (v : Value) (w : World) : (Instr.typeAssert (.iface 77 v) 58 80 true).run Try.prog w = .ok (.tuple #[.pointer none, .bool false]) w := by kernel_rfl
theorem ta_80_80 (v : Value) (w : World) : (Instr.typeAssert (.iface 80 v) 58 80 true).run Try.prog w = .ok (.tuple #[v, .bool true]) w := by kernel_rfl
theorem ta_83_80 (v : Value) (w : World) : (Instr.typeAssert (.iface 83 v) 58 80 true).run Try.prog w = .ok (.tuple #[.pointer none, .bool false]) w := by kernel_rfl
theorem ta_nil_83 (w : World) : (Instr.typeAssert .nilIface 58 83 true).run Try.prog w = .ok (.tuple #[.pointer none, .bool false]) w := by kernel_rfl
theorem ta_87_83 (v : Value) (w : World) : (Instr.typeAssert (.iface 87 v) 58 83 true).run Try.prog w = .ok (.tuple #[.pointer none, .bool false]) w := by kernel_rfl
theorem ta_90_83 (v : Value) (w : World) : (Instr.typeAssert (.iface 90 v) 58 83 true).run Try.prog w = .ok (.tuple #[.pointer none, .bool false]) w := by kernel_rfl
theorem ta_73_83 (v : Value) (w : World) : (Instr.typeAssert (.iface 73 v) 58 83 true).run Try.prog w = .ok (.tuple #[.pointer none, .bool false]) w := by kernel_rfl
theorem ta_77_83 (v : Value) (w : World) : (Instr.typeAssert (.iface 77 v) 58 83 true).run Try.prog w = .ok (.tuple #[.pointer none, .bool false]) w := by kernel_rfl
theorem ta_80_83 (v : Value) (w : World) : (Instr.typeAssert (.iface 80 v) 58 83 true).run Try.prog w = .ok (.tuple #[.pointer none, .bool false]) w := by kernel_rfl
theorem ta_83_83 (v : Value) (w : World) : (Instr.typeAssert (.iface 83 v) 58 83 true).run Try.prog w = .ok (.tuple #[v, .bool true]) w := by kernel_rfl
attribute [local go_sem] ta_nil_73 ta_87_73 ta_90_73 ta_73_73 ta_77_73 ta_80_73 ta_83_73 ta_nil_77 ta_87_77 ta_90_77 ta_73_77 ta_77_77 ta_80_77 ta_83_77 ta_nil_80 ta_87_80 ta_90_80 ta_73_80 ta_77_80 ta_80_80 ta_83_80 ta_nil_83 ta_87_83 ta_90_83 ta_73_83 ta_77_83 ta_80_83 ta_83_83

set_option maxHeartbeats 1000000 in
set_option maxRecDepth 100000 in
theorem f18_nil (w : World) : Calls Try.prog 18 #[.nilIface] w fun e w' => e = .returned (.bool false) ∧ w' = w := by
  go_enter Try.func18, Try.ntmps18
  go_wp2_with fail
  go_ret
  exact ⟨rfl, rfl⟩

set_option maxHeartbeats 1000000 in
set_option maxRecDepth 100000 in
theorem f18_leaf (T : TypeId) (hT : T = 87 ∨ T = 90) (p : Addr) (w : World) : Calls Try.prog 18 #[.iface T (.pointer (some p))] w fun e w' => e = .returned (.bool false) ∧ w' = w := by
  rcases hT with rfl | rfl
  · go_enter Try.func18, Try.ntmps18
    go_wp2_with fail
    go_ret
    exact ⟨rfl, rfl⟩
  · go_enter Try.func18, Try.ntmps18
    go_wp2_with fail
    go_ret
    exact ⟨rfl, rfl⟩

/-- An answer that is yes settles it; one that is no leaves it. -/
theorem anyTo_true {f : Nat → Bool} : ∀ {n i : Nat}, i < n → f i = true → anyTo n f = true
  | n + 1, i, hi, h => by
    rw [anyTo]
    by_cases e : i = n
    · subst e; simp [h]
    · simp [anyTo_true (n := n) (i := i) (by omega) h]

set_option maxHeartbeats 2000000 in
set_option maxRecDepth 100000 in
/-- 'containsAggregate': it only reads. -/
theorem f18_any {ok : Nat → Prop} (n : Nat) : ∀ (v : Value) (h : Bool) (w : World), ExprIn ok n w v h → Calls Try.prog 18 #[v] w fun e w' => e = .returned (.bool h) ∧ w' = w := by
  induction n with
  | zero =>
    rintro v h w ⟨rfl, rfl⟩
    exact f18_nil w
  | succ n ih =>
    have IH := hide ih
    clear ih
    intro v h w hn
    rcases hn with ⟨rfl, rfl⟩ | ⟨p, rfl, rfl⟩ | ⟨p, rfl, rfl⟩ | ⟨b, s, a, len, cap, hs, rfl, hok, h1, h2, hl, hk, rfl⟩ | ⟨b, x, rfl, hok, h1, hx⟩ | ⟨b, x, y, ex, ey, rfl, hok, h1, h2, hx, hy, rfl⟩ | ⟨b, x, rfl, hok, h1, hx⟩
    · exact f18_nil w
    · exact f18_leaf 87 (.inl rfl) p w
    · exact f18_leaf 90 (.inr rfl) p w
    · clear hok
      have HK := hide hk
      clear hk
      cases hag : aggName s with
      | true =>
        have HG := hide hag
        clear hag
        go_enter Try.func18, Try.ntmps18
        go_wp2_with fail
        refine (f26_any s w).mono ?_
        rintro e w' ⟨rfl, rfl⟩
        rw [HG.out]
        go_wp2_with fail
        go_ret
        exact ⟨rfl, rfl⟩
      | false =>
        have HG := hide hag
        clear hag
        go_enter Try.func18, Try.ntmps18
        go_wp2_with fail
        refine (f26_any s w).mono ?_
        rintro e w' ⟨rfl, rfl⟩
        rw [HG.out]
        go_wp2_with fail
        go_loop [5, 23] (fun _ i => ∃ j : Nat, j ≤ len ∧ i = .int .i64 j ∧ Hid (anyTo j hs = false)) (fun _ i => len - (intOf i).toNat)
        case atStart => exact ⟨0, Nat.zero_le _, rfl, rfl⟩
        case round =>
          obtain ⟨j, hj, rfl, HA⟩ := hrel
          by_cases hlt : j < len
          · obtain ⟨b', off, c, rfl, _, hc, hx⟩ := HK.out j hlt
            have HX := hide hx
            clear hx
            go_wp2_with fail
            refine (IH.out c (hs j) _ HX.out).mono ?_
            rintro e w' ⟨rfl, rfl⟩
            cases hhj : hs j with
            | true =>
              have HJ := hide hhj
              clear hhj
              go_wp2_with fail
              go_ret
              exact ⟨by rw [anyTo_true hlt HJ.out]; rfl, rfl⟩
            | false =>
              have HJ := hide hhj
              clear hhj
              go_wp2_with fail
              go_round
              case rel => exact ⟨j + 1, by omega, by go_num, by show anyTo (j + 1) hs = false; rw [anyTo, HA.out, HJ.out]; rfl⟩
              case measure => simp [intOf]; omega
          · have hjl : j = len := by omega
            go_wp2_with fail
            go_ret
            exact ⟨by rw [← hjl, HA.out]; rfl, rfl⟩
    · clear hok
      have HX := hide hx
      clear hx
      go_enter Try.func18, Try.ntmps18
      go_wp2_with fail
      refine (IH.out x h _ HX.out).mono ?_
      rintro e w' ⟨rfl, rfl⟩
      go_wp2_with fail
      go_ret
      exact ⟨rfl, rfl⟩
    · clear hok
      have HX := hide hx
      have HY := hide hy
      clear hx hy
      go_enter Try.func18, Try.ntmps18
      go_wp2_with fail
      refine (IH.out x ex _ HX.out).mono ?_
      rintro e w' ⟨rfl, rfl⟩
      cases ex with
      | true =>
        go_wp2_with fail
        go_ret
        exact ⟨rfl, rfl⟩
      | false =>
        go_wp2_with fail
        refine (IH.out y ey _ HY.out).mono ?_
        rintro e w' ⟨rfl, rfl⟩
        go_wp2_with fail
        go_ret
        exact ⟨by simp, rfl⟩
    · clear hok
      have HX := hide hx
      clear hx
      go_enter Try.func18, Try.ntmps18
      go_wp2_with fail
      refine (IH.out x h _ HX.out).mono ?_
      rintro e w' ⟨rfl, rfl⟩
      go_wp2_with fail
      go_ret
      exact ⟨rfl, rfl⟩

end Go.Proofs.Qxb6614851a.Agg
