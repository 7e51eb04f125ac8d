/-
  NARROWER THAN 'FOR EVERY INPUT', by the rows' own cells (each row's printed sentence says how): FnContainsAggregateFindsAnyAggregateCall: loops · FnContainsAggregateAtAnyPlace: loops · FnKeyPrefixIsLongestRunOfFixedKeyColumns: loops.
  DERIVED. THE GIVEN ROWS OF THIS SEAT. 3 by the template 'for every input the law returns true; each argument reads behind the call as it read before'; 0 by the template 'total and deterministic' (their statements: Qxb6614851aTotals.lean).
  GIVEN WITH THE SEED: the statements are not yours to turn. If you find one false, say at which input.
  Laid BY PROGRAM, IN A SANDBOX (cutbox-rows.mjs): the forced cells as the released guide's own fill.sh prints them over the translation cb737508ae1e1c4d… (all of the seat's roots in one cut). By AI agents, Wed Nov 11 2026. No macro, syntax, notation, axiom, sorry.
-/
import Derived.Test.Qxb6614851aChecked
import GoSem.Claim
import GoSem.ClaimJoined
import GoSem.ClaimMapViews
import Derived.JoinedTies
import Derived.KernelRfl
namespace Go.Proofs.Qxb6614851a
/- THE CELL 'sum', in the pinned program and in every row, IS THE sha256 OF THE DUMP (.gsa) THAT Qxb6614851aProg.lean LOADS. Nothing in Lean hashes anything: it is a label: what it is worth is what the hold of that sum in a sandbox is worth. -/
noncomputable def Try.pinned : Pinned := { name := "qxb6614851a", sum := "cb737508ae1e1c4ddc4c6d300ac381423536e00b79b08d56f831db49eaa7b940", checked := Try.checked }
namespace Rows
def none {H : Type} : Left H := { results := [], args := [] }

/-- 'zzlaws_internal_engine_b1.FnContainsAggregateFindsAnyAggregateCall': WHATEVER THE INPUT: true; the input reads as it did. -/
def fnContainsAggregateFindsAnyAggregateCallSpec : ChangeSpec := { name := "fnContainsAggregateFindsAnyAggregateCall", fn := fun _ => fun
  | [d] => { results := [.lit (.bool true)], args := [d] }
  | _ => none }
def fnContainsAggregateFindsAnyAggregateCallRow : OpenClaim := { program := "qxb6614851a", sum := "cb737508ae1e1c4ddc4c6d300ac381423536e00b79b08d56f831db49eaa7b940", func := "example.com/lockstep/lockstep/zzlaws_internal_engine_b1.FnContainsAggregateFindsAnyAggregateCall", spec := "fnContainsAggregateFindsAnyAggregateCall", recurses := true, loops := true, apart := false }
def FnContainsAggregateFindsAnyAggregateCallSaid : Prop := fnContainsAggregateFindsAnyAggregateCallRow.holds Try.pinned (OpenSpec.ofChange fnContainsAggregateFindsAnyAggregateCallSpec)

/-- ITS FALSE NEIGHBOUR: 'it returns false'. Refute it at one input. -/
def fnContainsAggregateFindsAnyAggregateCallWrong : ChangeSpec := { name := "fnContainsAggregateFindsAnyAggregateCall", fn := fun _ => fun
  | [d] => { results := [.lit (.bool false)], args := [d] }
  | _ => none }
def FnContainsAggregateFindsAnyAggregateCallWrongFalsely : Prop := fnContainsAggregateFindsAnyAggregateCallRow.holds Try.pinned (OpenSpec.ofChange fnContainsAggregateFindsAnyAggregateCallWrong)

/-- 'zzlaws_internal_engine_b1.FnContainsAggregateAtAnyPlace': WHATEVER THE INPUT: true; the input reads as it did. -/
def fnContainsAggregateAtAnyPlaceSpec : ChangeSpec := { name := "fnContainsAggregateAtAnyPlace", fn := fun _ => fun
  | [d1, d2, d3, d4] => { results := [.lit (.bool true)], args := [d1, d2, d3, d4] }
  | _ => none }
def fnContainsAggregateAtAnyPlaceRow : OpenClaim := { program := "qxb6614851a", sum := "cb737508ae1e1c4ddc4c6d300ac381423536e00b79b08d56f831db49eaa7b940", func := "example.com/lockstep/lockstep/zzlaws_internal_engine_b1.FnContainsAggregateAtAnyPlace", spec := "fnContainsAggregateAtAnyPlace", recurses := true, loops := true, apart := false }
def FnContainsAggregateAtAnyPlaceSaid : Prop := fnContainsAggregateAtAnyPlaceRow.holds Try.pinned (OpenSpec.ofChange fnContainsAggregateAtAnyPlaceSpec)

/-- ITS FALSE NEIGHBOUR: 'it returns false'. Refute it at one input. -/
def fnContainsAggregateAtAnyPlaceWrong : ChangeSpec := { name := "fnContainsAggregateAtAnyPlace", fn := fun _ => fun
  | [d1, d2, d3, d4] => { results := [.lit (.bool false)], args := [d1, d2, d3, d4] }
  | _ => none }
def FnContainsAggregateAtAnyPlaceWrongFalsely : Prop := fnContainsAggregateAtAnyPlaceRow.holds Try.pinned (OpenSpec.ofChange fnContainsAggregateAtAnyPlaceWrong)

/-- 'zzlaws_internal_engine_b1.FnKeyPrefixIsLongestRunOfFixedKeyColumns': WHATEVER THE INPUT: true; the input reads as it did. -/
def fnKeyPrefixIsLongestRunOfFixedKeyColumnsSpec : ChangeSpec := { name := "fnKeyPrefixIsLongestRunOfFixedKeyColumns", fn := fun _ => fun
  | [d1, d2] => { results := [.lit (.bool true)], args := [d1, d2] }
  | _ => none }
def fnKeyPrefixIsLongestRunOfFixedKeyColumnsRow : OpenClaim := { program := "qxb6614851a", sum := "cb737508ae1e1c4ddc4c6d300ac381423536e00b79b08d56f831db49eaa7b940", func := "example.com/lockstep/lockstep/zzlaws_internal_engine_b1.FnKeyPrefixIsLongestRunOfFixedKeyColumns", spec := "fnKeyPrefixIsLongestRunOfFixedKeyColumns", unfollowed := true, recurses := true, loops := true, apart := false }
def FnKeyPrefixIsLongestRunOfFixedKeyColumnsSaid : Prop := fnKeyPrefixIsLongestRunOfFixedKeyColumnsRow.holds Try.pinned (OpenSpec.ofChange fnKeyPrefixIsLongestRunOfFixedKeyColumnsSpec)

/-- ITS FALSE NEIGHBOUR: 'it returns false'. Refute it at one input. -/
def fnKeyPrefixIsLongestRunOfFixedKeyColumnsWrong : ChangeSpec := { name := "fnKeyPrefixIsLongestRunOfFixedKeyColumns", fn := fun _ => fun
  | [d1, d2] => { results := [.lit (.bool false)], args := [d1, d2] }
  | _ => none }
def FnKeyPrefixIsLongestRunOfFixedKeyColumnsWrongFalsely : Prop := fnKeyPrefixIsLongestRunOfFixedKeyColumnsRow.holds Try.pinned (OpenSpec.ofChange fnKeyPrefixIsLongestRunOfFixedKeyColumnsWrong)

end Rows
end Go.Proofs.Qxb6614851a
