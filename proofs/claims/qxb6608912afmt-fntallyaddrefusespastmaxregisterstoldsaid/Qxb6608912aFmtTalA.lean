/-
  The closed facts for the walk over fmt's two stopped fronts, off this seat's dump; Register's String (8).
-/
import Derived.Test.Qxb6608912aFmtRows
import Derived.WalkKit
import Derived.WalkSpells
import Derived.WalkLawsBesides
import Derived.Stop.CallBack
import Derived.Stop.IfaceNil
import GoSem.ClaimData
import Derived.Maps.Own
import Derived.Maps.OwnSet
import Derived.BigQuiet
namespace Go.Proofs.Qxb6608912aFmt.Tal
open Go.RowKit Go.Extern.Stop Go.Stop Go.Extern
theorem fact_call14 (args : Array Value) (w : World) : (callFunc 14 args).run Tryf.prog w = (FmtCalls.errorf #[9, 49] #[26] args).run Tryf.prog w :=
  run_callFunc_next Tryf.func14 (by kernel_rfl) (by kernel_rfl) (by kernel_rfl) args w
theorem fact_call12 (args : Array Value) (w : World) : (callFunc 12 args).run Tryf.prog w = ((FmtStop.sprintf #[9, 49] #[9] args).run Tryf.prog w).andThen fun v w' => .ok (.value v) w' :=
  run_callFunc_extern Tryf.func12 (by kernel_rfl) (by kernel_rfl) (by kernel_rfl) (by kernel_rfl) args w
theorem fact_guard (name : String) (w : World) : (FmtStop.guard name).run Tryf.prog w = .ok () w := by kernel_rfl
theorem fact_nextTurns : Extern.next FmtCalls.turnsRow = some (FmtCalls.begun #[] #[]) := by kernel_rfl
theorem fact_nextReturned : Extern.next FmtCalls.returnedRow = some (FmtCalls.returned #[] #[]) := by kernel_rfl
-- the format of Errorf, three operands
theorem fact_fmt0r (w : World) : (FmtDoors.printed ⟨#[37, 115, 32, 119, 111, 117, 108, 100, 32, 98, 101, 32, 114, 101, 103, 105, 115, 116, 101, 114, 32, 37, 100, 32, 111, 102, 32, 116, 104, 101, 32, 108, 111, 103, 44, 32, 112, 97, 115, 116, 32, 116, 104, 101, 32, 37, 100, 32, 97, 32, 108, 111, 103, 32, 109, 97, 121, 32, 110, 97, 109, 101]⟩ 3).run Tryf.prog w = .ok [(0, 115, false), (1, 100, false), (2, 100, false)] w := by kernel_rfl
-- the four formats of String
theorem fact_fmt1 : FmtStop.printed? ⟨#[112, 99, 114, 37, 100]⟩ 1 = some [(0, 100, false)] := by kernel_rfl
theorem fact_fmt2 : FmtStop.printed? ⟨#[114, 116, 109, 114, 37, 100]⟩ 1 = some [(0, 100, false)] := by kernel_rfl
theorem fact_fmt3 : FmtStop.printed? ⟨#[110, 118, 48, 120, 37, 48, 56, 120]⟩ 1 = some [(0, 120, false)] := by kernel_rfl
theorem fact_fmt4 : FmtStop.printed? ⟨#[114, 101, 103, 105, 115, 116, 101, 114, 40, 107, 105, 110, 100, 32, 37, 100, 44, 32, 105, 110, 100, 101, 120, 32, 37, 100, 41]⟩ 2 = some [(0, 100, false), (1, 100, false)] := by kernel_rfl
-- the operands
def fact_shape3 : List UInt8 := [5, 3, 0, 0, 0, 0, 0, 0, 0, 105, 110, 116]
def fact_shape22 : List UInt8 := [8, 6, 0, 0, 0, 0, 0, 0, 0, 117, 105, 110, 116, 51, 50]
def fact_shape29 : List UInt8 := [6, 16, 0, 0, 0, 0, 0, 0, 0, 101, 105, 114, 46, 82, 101, 103, 105, 115, 116, 101, 114, 75, 105, 110, 100]
theorem fact_op22_100 (name : String) (x : Int) (w : World) : (FmtStop.operand name false 100 false (.iface 22 (.int .u32 x))).run Tryf.prog w = .ok (fact_shape22, Go.Extern.Stop.digits 8 (x % 2 ^ 64).toNat) w := by kernel_rfl
theorem fact_op22_120 (name : String) (x : Int) (w : World) : (FmtStop.operand name false 120 false (.iface 22 (.int .u32 x))).run Tryf.prog w = .ok (fact_shape22, Go.Extern.Stop.digits 8 (x % 2 ^ 64).toNat) w := by kernel_rfl
theorem fact_op29_100 (name : String) (x : Int) (w : World) : (FmtStop.operand name false 100 false (.iface 29 (.int .u8 x))).run Tryf.prog w = .ok (fact_shape29, Go.Extern.Stop.digits 8 (x % 2 ^ 64).toNat) w := by kernel_rfl
theorem fact_op3_100w (name : String) (x : Int) (w : World) : (FmtStop.operand name true 100 false (.iface 3 (.int .i64 x))).run Tryf.prog w = .ok (fact_shape3, Go.Extern.Stop.digits 8 (x % 2 ^ 64).toNat) w := by kernel_rfl
theorem fact_act3_100w (name : String) (x : Value) (w : World) : (FmtCalls.act name true 100 false (.iface 3 x)).run Tryf.prog w = .ok (.closed true) w := by kernel_rfl
theorem fact_act31_115w (name : String) (x : Value) (w : World) : (FmtCalls.act name true 115 false (.iface 31 x)).run Tryf.prog w = .ok (.call false) w := by kernel_rfl
theorem fact_invokeString31 (x : Value) (w : World) : (invoke (.fn (.method "String") #[]) #[.iface 31 x]).run Tryf.prog w = .ok (.enter 8 #[x]) w := by kernel_rfl
theorem fact_str31 (w : World) : (typeStr 31).run Tryf.prog w = .ok "eir.Register" w := by kernel_rfl
theorem fact_ptr52 (w : World) : (FmtStop.ptrTo "errors.errorString").run Tryf.prog w = .ok 52 w := by kernel_rfl
theorem fact_elem52 (w : World) : (elemOf 52).run Tryf.prog w = .ok 54 w := by kernel_rfl

attribute [local go_sem] fact_call14 fact_call12 fact_guard fact_fmt0r fact_fmt1 fact_fmt2 fact_fmt3 fact_fmt4 fact_op22_100 fact_op22_120 fact_op29_100 fact_op3_100w fact_act3_100w fact_act31_115w fact_str31 fact_ptr52 fact_elem52

theorem size_new (w : World) (o : Obj) : (w.alloc o).heap.size = w.heap.size + 1 := by show (w.heap.push o).size = _; simp
theorem hide {p : Prop} (h : p) : Hid p := h
theorem cell_kept {B : Nat} {w w' : World} {a : Addr} {v : Value} (hb : Below B w w') (hB : w.heap.size ≤ B) (h : w.cell? a = some v) : w'.cell? a = some v := by
  have := block_lt_of_cell h
  rw [hb.cell (by omega)]; exact h
/-- It hands back some string. -/
def RetStr (e : Ending) : Prop := ∃ s, e = .returned (.string s)
theorem retStr (s : ByteArray) : RetStr (.returned (.string s)) := ⟨s, rfl⟩

set_option maxHeartbeats 800000 in
/-- '(Register).String': some string. -/
theorem f8_any (F : Interp) (k x : Int) (w : World) (hF : F.answers w.tape) :
    Calls Tryf.prog 8 #[.agg #[.int .u8 k, .int .u32 x]] w fun e w' => RetStr e ∧ Below w.heap.size w w' := by
  have hF' := answers_open hF
  go_enter Tryf.func8, Tryf.ntmps8
  go_wp2
  all_goals go_ret
  all_goals refine ⟨retStr _, ?_⟩
  all_goals first
    | exact (((Below.refl _ w).alloc (Nat.le_refl _) _).alloc (by rw [size_new]; omega) _).drew
    | exact (Below.refl _ w).alloc (Nat.le_refl _) _

/-- It hands back an error that is not nil. -/
def RetErr (e : Ending) : Prop := ∃ a, e = .returned (.iface 52 (.pointer (some a)))
theorem retErr (a : Addr) : RetErr (.returned (.iface 52 (.pointer (some a)))) := ⟨a, rfl⟩

set_option maxHeartbeats 800000 in
/-- 'fmt.Errorf' at this program's one call: some error, not nil. -/
theorem f13_any (F : Interp) (k x : Int) (p : Nat) (w : World) (hF : F.answers w.tape)
    (c0 : w.cell? ⟨p, 0, none⟩ = some (.iface 31 (.agg #[.int .u8 k, .int .u32 x]))) (c1 : w.cell? ⟨p, 1, none⟩ = some (.iface 3 (.int .i64 1025))) (c2 : w.cell? ⟨p, 2, none⟩ = some (.iface 3 (.int .i64 1024))) :
    Calls Tryf.prog 13 #[.string ⟨#[37, 115, 32, 119, 111, 117, 108, 100, 32, 98, 101, 32, 114, 101, 103, 105, 115, 116, 101, 114, 32, 37, 100, 32, 111, 102, 32, 116, 104, 101, 32, 108, 111, 103, 44, 32, 112, 97, 115, 116, 32, 116, 104, 101, 32, 37, 100, 32, 97, 32, 108, 111, 103, 32, 109, 97, 121, 32, 110, 97, 109, 101]⟩, .slice (some ⟨p, 0, none⟩) 3 3] w fun e w' => RetErr e ∧ Below w.heap.size w w' := by
  have hF' := answers_open hF
  go_enter Tryf.func13, Tryf.ntmps13
  go_wp2
  apply rows_call fact_nextTurns
  case hr =>
    go_simp
    exact ⟨⟨rfl, rfl, rfl⟩, rfl⟩
  case hi => exact fact_invokeString31 _ _
  case hc =>
    refine (f8_any F k x _ (by exact hF)).mono fun e w₃ ⟨⟨s, he⟩, hb⟩ => ?_
    subst he
    have hF3 : F.answers w₃.tape := by rw [hb.tape]; exact hF
    have hF4 := answers_open hF3
    have d1 := cell_kept hb (Nat.le_refl _) c1
    have d2 := cell_kept hb (Nat.le_refl _) c2
    apply rows_value fact_nextReturned
    case hr =>
      go_simp
      exact ⟨rfl, rfl⟩
    case h =>
      go_wp2
      go_ret
      exact ⟨retErr _, (hb.alloc hb.size _).drew⟩
end Go.Proofs.Qxb6608912aFmt.Tal
