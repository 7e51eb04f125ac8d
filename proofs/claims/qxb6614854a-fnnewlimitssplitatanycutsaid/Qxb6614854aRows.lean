/-
  No cell of these rows narrows 'for every input' (looked for: loops, veiled, ifaces, maps, wideKeys, modest, calm, conditions, laid).
  DERIVED. THE GIVEN ROWS OF THIS SEAT. 2 by the template 'for every input the law returns true; each argument reads behind the call as it read before'; 0 by the template 'total and deterministic' (their statements: Qxb6614854aTotals.lean).
  GIVEN WITH THE SEED: the statements are not yours to turn. If you find one false, say at which input.
  Laid BY PROGRAM, IN A SANDBOX (cutbox-rows.mjs): the forced cells as the released guide's own fill.sh prints them over the translation 7094a09e6b62aab6… (all of the seat's roots in one cut). By AI agents, Wed Nov 11 2026. No macro, syntax, notation, axiom, sorry.
-/
import Derived.Test.Qxb6614854aChecked
import GoSem.Claim
import GoSem.ClaimJoined
import GoSem.ClaimMapViews
import Derived.JoinedTies
import Derived.KernelRfl
namespace Go.Proofs.Qxb6614854a
/- THE CELL 'sum', in the pinned program and in every row, IS THE sha256 OF THE DUMP (.gsa) THAT Qxb6614854aProg.lean LOADS. Nothing in Lean hashes anything: it is a label: what it is worth is what the hold of that sum in a sandbox is worth. -/
noncomputable def Try.pinned : Pinned := { name := "qxb6614854a", sum := "7094a09e6b62aab69443b704ef1f755da7e3c962d7e5b9e574636425a6428e2f", checked := Try.checked }
namespace Rows
def none {H : Type} : Left H := { results := [], args := [] }

/-- 'zzlaws_root_b1.FnNewLimitsLastSetterWins': WHATEVER THE INPUT: true; the input reads as it did. -/
def fnNewLimitsLastSetterWinsSpec : ChangeSpec := { name := "fnNewLimitsLastSetterWins", fn := fun _ => fun
  | [d1, d2] => { results := [.lit (.bool true)], args := [d1, d2] }
  | _ => none }
def fnNewLimitsLastSetterWinsRow : OpenClaim := { program := "qxb6614854a", sum := "7094a09e6b62aab69443b704ef1f755da7e3c962d7e5b9e574636425a6428e2f", func := "example.com/fieldglass/fieldglass/zzlaws_root_b1.FnNewLimitsLastSetterWins", spec := "fnNewLimitsLastSetterWins", unfollowed := true, recurses := true, apart := false }
def FnNewLimitsLastSetterWinsSaid : Prop := fnNewLimitsLastSetterWinsRow.holds Try.pinned (OpenSpec.ofChange fnNewLimitsLastSetterWinsSpec)

/-- ITS FALSE NEIGHBOUR: 'it returns false'. Refute it at one input. -/
def fnNewLimitsLastSetterWinsWrong : ChangeSpec := { name := "fnNewLimitsLastSetterWins", fn := fun _ => fun
  | [d1, d2] => { results := [.lit (.bool false)], args := [d1, d2] }
  | _ => none }
def FnNewLimitsLastSetterWinsWrongFalsely : Prop := fnNewLimitsLastSetterWinsRow.holds Try.pinned (OpenSpec.ofChange fnNewLimitsLastSetterWinsWrong)

/-- 'zzlaws_root_b1.FnNewLimitsSplitAtAnyCut': WHATEVER THE INPUT: true; the input reads as it did. -/
def fnNewLimitsSplitAtAnyCutSpec : ChangeSpec := { name := "fnNewLimitsSplitAtAnyCut", fn := fun _ => fun
  | [d1, d2, d3] => { results := [.lit (.bool true)], args := [d1, d2, d3] }
  | _ => none }
def fnNewLimitsSplitAtAnyCutRow : OpenClaim := { program := "qxb6614854a", sum := "7094a09e6b62aab69443b704ef1f755da7e3c962d7e5b9e574636425a6428e2f", func := "example.com/fieldglass/fieldglass/zzlaws_root_b1.FnNewLimitsSplitAtAnyCut", spec := "fnNewLimitsSplitAtAnyCut", unfollowed := true, recurses := true, apart := false }
def FnNewLimitsSplitAtAnyCutSaid : Prop := fnNewLimitsSplitAtAnyCutRow.holds Try.pinned (OpenSpec.ofChange fnNewLimitsSplitAtAnyCutSpec)

/-- ITS FALSE NEIGHBOUR: 'it returns false'. Refute it at one input. -/
def fnNewLimitsSplitAtAnyCutWrong : ChangeSpec := { name := "fnNewLimitsSplitAtAnyCut", fn := fun _ => fun
  | [d1, d2, d3] => { results := [.lit (.bool false)], args := [d1, d2, d3] }
  | _ => none }
def FnNewLimitsSplitAtAnyCutWrongFalsely : Prop := fnNewLimitsSplitAtAnyCutRow.holds Try.pinned (OpenSpec.ofChange fnNewLimitsSplitAtAnyCutWrong)

end Rows
end Go.Proofs.Qxb6614854a
