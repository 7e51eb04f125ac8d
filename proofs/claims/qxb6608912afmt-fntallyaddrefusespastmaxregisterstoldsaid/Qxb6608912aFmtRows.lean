/-
  No cell of these rows narrows 'for every input' (looked for: loops, veiled, ifaces, maps, wideKeys, modest, calm, conditions, laid).
  DERIVED. THE GIVEN ROWS OF THIS SEAT. 3 by the template 'for every input the law returns true; each argument reads behind the call as it read before'; 0 by the template 'total and deterministic' (their statements: Qxb6608912aFmtTotals.lean).
  GIVEN WITH THE SEED: the statements are not yours to turn. If you find one false, say at which input.
  Laid BY PROGRAM, IN A SANDBOX (cutbox-rows.mjs): the forced cells as the released guide's own fill.sh prints them over the translation 4ff5855236732eac… (all of the seat's roots in one cut). By AI agents, Wed Nov 11 2026. No macro, syntax, notation, axiom, sorry.
-/
import Derived.Test.Qxb6608912aFmtChecked
import GoSem.Claim
import GoSem.ClaimJoined
import GoSem.ClaimMapViews
import Derived.JoinedTies
import Derived.KernelRfl
namespace Go.Proofs.Qxb6608912aFmt
/- THE CELL 'sum', in the pinned program and in every row, IS THE sha256 OF THE DUMP (.gsa) THAT Qxb6608912aFmtProg.lean LOADS. Nothing in Lean hashes anything: it is a label: what it is worth is what the hold of that sum in a sandbox is worth. -/
noncomputable def Tryf.pinned : Pinned := { name := "qxb6608912afmt", sum := "4ff5855236732eac88aa47b9608a60c2036161ca01b43e557b23efdb70b4fea9", checked := Tryf.checked }
namespace Rows
def none {H : Type} : Left H := { results := [], args := [] }

/-- 'zzlaws_root_b1.FnTallyAddRefusesPastMaxRegisters': WHATEVER THE INPUT: true; the input reads as it did. -/
def fnTallyAddRefusesPastMaxRegistersSpec : ChangeSpec := { name := "fnTallyAddRefusesPastMaxRegisters", fn := fun _ => fun
  | [d1, d2, d3] => { results := [.lit (.bool true)], args := [d1, d2, d3] }
  | _ => none }
def fnTallyAddRefusesPastMaxRegistersRow : OpenClaim := { program := "qxb6608912afmt", sum := "4ff5855236732eac88aa47b9608a60c2036161ca01b43e557b23efdb70b4fea9", func := "example.com/events-into-registers/events-into-registers/zzlaws_root_b1.FnTallyAddRefusesPastMaxRegisters", spec := "fnTallyAddRefusesPastMaxRegisters", stops := ["fmt.Sprintf", "fmt.errorf, its operands' methods called"], inPlace := ["fmt.errorf"], unfollowed := true, recurses := true, plainKeys := false, apart := false }
/-- NO THEOREM (fmt's text is open here; it may be false): for the released tool's asking of the row's closed facts alone. THE STATEMENT IS 'FnTallyAddRefusesPastMaxRegistersToldSaid' (Qxb6608912aFmtCards.lean). -/
def FnTallyAddRefusesPastMaxRegistersFormAsk : Prop := fnTallyAddRefusesPastMaxRegistersRow.holds Tryf.pinned (OpenSpec.ofChange fnTallyAddRefusesPastMaxRegistersSpec)

/-- ITS FALSE NEIGHBOUR: 'it returns false'. Refute it at one input. -/
def fnTallyAddRefusesPastMaxRegistersWrong : ChangeSpec := { name := "fnTallyAddRefusesPastMaxRegisters", fn := fun _ => fun
  | [d1, d2, d3] => { results := [.lit (.bool false)], args := [d1, d2, d3] }
  | _ => none }
def FnTallyAddRefusesPastMaxRegistersWrongFormAsk : Prop := fnTallyAddRefusesPastMaxRegistersRow.holds Tryf.pinned (OpenSpec.ofChange fnTallyAddRefusesPastMaxRegistersWrong)

/-- 'zzlaws_root_b1.FnRegisterStringIdentifiesRegisters': WHATEVER THE INPUT: true; the input reads as it did. -/
def fnRegisterStringIdentifiesRegistersSpec : ChangeSpec := { name := "fnRegisterStringIdentifiesRegisters", fn := fun _ => fun
  | [d1, d2, d3, d4] => { results := [.lit (.bool true)], args := [d1, d2, d3, d4] }
  | _ => none }
def fnRegisterStringIdentifiesRegistersRow : OpenClaim := { program := "qxb6608912afmt", sum := "4ff5855236732eac88aa47b9608a60c2036161ca01b43e557b23efdb70b4fea9", func := "example.com/events-into-registers/events-into-registers/zzlaws_root_b1.FnRegisterStringIdentifiesRegisters", spec := "fnRegisterStringIdentifiesRegisters", stops := ["fmt.Sprintf", "fmt.errorf, its operands' methods called"], inPlace := ["fmt.Sprintf"], plainKeys := false, apart := false }
/-- NO THEOREM (fmt's text is open here; it may be false): for the released tool's asking of the row's closed facts alone. THE STATEMENT IS 'FnRegisterStringIdentifiesRegistersToldSaid' (Qxb6608912aFmtCards.lean). -/
def FnRegisterStringIdentifiesRegistersFormAsk : Prop := fnRegisterStringIdentifiesRegistersRow.holds Tryf.pinned (OpenSpec.ofChange fnRegisterStringIdentifiesRegistersSpec)

/-- ITS FALSE NEIGHBOUR: 'it returns false'. Refute it at one input. -/
def fnRegisterStringIdentifiesRegistersWrong : ChangeSpec := { name := "fnRegisterStringIdentifiesRegisters", fn := fun _ => fun
  | [d1, d2, d3, d4] => { results := [.lit (.bool false)], args := [d1, d2, d3, d4] }
  | _ => none }
def FnRegisterStringIdentifiesRegistersWrongFormAsk : Prop := fnRegisterStringIdentifiesRegistersRow.holds Tryf.pinned (OpenSpec.ofChange fnRegisterStringIdentifiesRegistersWrong)

/-- 'zzlaws_root_b1.FnRegisterStringNVFixedWidthOrdered': WHATEVER THE INPUT: true; the input reads as it did. -/
def fnRegisterStringNVFixedWidthOrderedSpec : ChangeSpec := { name := "fnRegisterStringNVFixedWidthOrdered", fn := fun _ => fun
  | [d1, d2] => { results := [.lit (.bool true)], args := [d1, d2] }
  | _ => none }
def fnRegisterStringNVFixedWidthOrderedRow : OpenClaim := { program := "qxb6608912afmt", sum := "4ff5855236732eac88aa47b9608a60c2036161ca01b43e557b23efdb70b4fea9", func := "example.com/events-into-registers/events-into-registers/zzlaws_root_b1.FnRegisterStringNVFixedWidthOrdered", spec := "fnRegisterStringNVFixedWidthOrdered", stops := ["fmt.Sprintf", "fmt.errorf, its operands' methods called"], inPlace := ["fmt.Sprintf"], plainKeys := false, apart := false }
/-- NO THEOREM (fmt's text is open here; it may be false): for the released tool's asking of the row's closed facts alone. THE STATEMENT IS 'FnRegisterStringNVFixedWidthOrderedToldSaid' (Qxb6608912aFmtCards.lean). -/
def FnRegisterStringNVFixedWidthOrderedFormAsk : Prop := fnRegisterStringNVFixedWidthOrderedRow.holds Tryf.pinned (OpenSpec.ofChange fnRegisterStringNVFixedWidthOrderedSpec)

/-- ITS FALSE NEIGHBOUR: 'it returns false'. Refute it at one input. -/
def fnRegisterStringNVFixedWidthOrderedWrong : ChangeSpec := { name := "fnRegisterStringNVFixedWidthOrdered", fn := fun _ => fun
  | [d1, d2] => { results := [.lit (.bool false)], args := [d1, d2] }
  | _ => none }
def FnRegisterStringNVFixedWidthOrderedWrongFormAsk : Prop := fnRegisterStringNVFixedWidthOrderedRow.holds Tryf.pinned (OpenSpec.ofChange fnRegisterStringNVFixedWidthOrderedWrong)

end Rows
end Go.Proofs.Qxb6608912aFmt
