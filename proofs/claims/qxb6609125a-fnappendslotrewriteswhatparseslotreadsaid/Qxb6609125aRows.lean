/-
  No cell of these rows narrows 'for every input' (looked for: loops, veiled, ifaces, maps, wideKeys, modest, calm, conditions, laid).
  DERIVED. THE GIVEN ROWS OF THIS SEAT. 3 by the template 'for every input the law returns true; each argument reads behind the call as it read before'; 0 by the template 'total and deterministic' (their statements: Qxb6609125aTotals.lean).
  GIVEN WITH THE SEED: the statements are not yours to turn. If you find one false, say at which input.
  Laid BY PROGRAM, IN A SANDBOX (cutbox-rows.mjs): the forced cells as the released guide's own fill.sh prints them over the translation e44c5cee1b8f4b1d… (all of the seat's roots in one cut). By AI agents, Wed Nov 11 2026. No macro, syntax, notation, axiom, sorry.
-/
import Derived.Test.Qxb6609125aChecked
import GoSem.Claim
import GoSem.ClaimJoined
import GoSem.ClaimMapViews
import Derived.JoinedTies
import Derived.KernelRfl
namespace Go.Proofs.Qxb6609125a
/- THE CELL 'sum', in the pinned program and in every row, IS THE sha256 OF THE DUMP (.gsa) THAT Qxb6609125aProg.lean LOADS. Nothing in Lean hashes anything: it is a label: what it is worth is what the hold of that sum in a sandbox is worth. -/
noncomputable def Try.pinned : Pinned := { name := "qxb6609125a", sum := "e44c5cee1b8f4b1d3e7215c893511f6de78536913464527578eb2423269ded3e", checked := Try.checked }
namespace Rows
def none {H : Type} : Left H := { results := [], args := [] }

/-- 'zzlaws_book_b1.FnParseSlotReadsWhatAppendSlotWrote': WHATEVER THE INPUT: true; the input reads as it did. -/
def fnParseSlotReadsWhatAppendSlotWroteSpec : ChangeSpec := { name := "fnParseSlotReadsWhatAppendSlotWrote", fn := fun _ => fun
  | [d1, d2, d3, d4] => { results := [.lit (.bool true)], args := [d1, d2, d3, d4] }
  | _ => none }
def fnParseSlotReadsWhatAppendSlotWroteRow : OpenClaim := { program := "qxb6609125a", sum := "e44c5cee1b8f4b1d3e7215c893511f6de78536913464527578eb2423269ded3e", func := "example.com/custodyframe/custodyframe/zzlaws_book_b1.FnParseSlotReadsWhatAppendSlotWrote", spec := "fnParseSlotReadsWhatAppendSlotWrote", named := ["encoding/binary.BigEndian"], apart := false }
def FnParseSlotReadsWhatAppendSlotWroteSaid : Prop := fnParseSlotReadsWhatAppendSlotWroteRow.holds Try.pinned (OpenSpec.ofChange fnParseSlotReadsWhatAppendSlotWroteSpec)

/-- ITS FALSE NEIGHBOUR: 'it returns false'. Refute it at one input. -/
def fnParseSlotReadsWhatAppendSlotWroteWrong : ChangeSpec := { name := "fnParseSlotReadsWhatAppendSlotWrote", fn := fun _ => fun
  | [d1, d2, d3, d4] => { results := [.lit (.bool false)], args := [d1, d2, d3, d4] }
  | _ => none }
def FnParseSlotReadsWhatAppendSlotWroteWrongFalsely : Prop := fnParseSlotReadsWhatAppendSlotWroteRow.holds Try.pinned (OpenSpec.ofChange fnParseSlotReadsWhatAppendSlotWroteWrong)

/-- 'zzlaws_book_b1.FnAppendSlotRewritesWhatParseSlotRead': WHATEVER THE INPUT: true; the input reads as it did. -/
def fnAppendSlotRewritesWhatParseSlotReadSpec : ChangeSpec := { name := "fnAppendSlotRewritesWhatParseSlotRead", fn := fun _ => fun
  | [d] => { results := [.lit (.bool true)], args := [d] }
  | _ => none }
def fnAppendSlotRewritesWhatParseSlotReadRow : OpenClaim := { program := "qxb6609125a", sum := "e44c5cee1b8f4b1d3e7215c893511f6de78536913464527578eb2423269ded3e", func := "example.com/custodyframe/custodyframe/zzlaws_book_b1.FnAppendSlotRewritesWhatParseSlotRead", spec := "fnAppendSlotRewritesWhatParseSlotRead", named := ["encoding/binary.BigEndian"], apart := false }
def FnAppendSlotRewritesWhatParseSlotReadSaid : Prop := fnAppendSlotRewritesWhatParseSlotReadRow.holds Try.pinned (OpenSpec.ofChange fnAppendSlotRewritesWhatParseSlotReadSpec)

/-- ITS FALSE NEIGHBOUR: 'it returns false'. Refute it at one input. -/
def fnAppendSlotRewritesWhatParseSlotReadWrong : ChangeSpec := { name := "fnAppendSlotRewritesWhatParseSlotRead", fn := fun _ => fun
  | [d] => { results := [.lit (.bool false)], args := [d] }
  | _ => none }
def FnAppendSlotRewritesWhatParseSlotReadWrongFalsely : Prop := fnAppendSlotRewritesWhatParseSlotReadRow.holds Try.pinned (OpenSpec.ofChange fnAppendSlotRewritesWhatParseSlotReadWrong)

/-- 'zzlaws_book_b1.FnIdsOfAgreesAtEveryCut': WHATEVER THE INPUT: true; the input reads as it did. -/
def fnIdsOfAgreesAtEveryCutSpec : ChangeSpec := { name := "fnIdsOfAgreesAtEveryCut", fn := fun _ => fun
  | [d1, d2] => { results := [.lit (.bool true)], args := [d1, d2] }
  | _ => none }
def fnIdsOfAgreesAtEveryCutRow : OpenClaim := { program := "qxb6609125a", sum := "e44c5cee1b8f4b1d3e7215c893511f6de78536913464527578eb2423269ded3e", func := "example.com/custodyframe/custodyframe/zzlaws_book_b1.FnIdsOfAgreesAtEveryCut", spec := "fnIdsOfAgreesAtEveryCut", apart := false }
def FnIdsOfAgreesAtEveryCutSaid : Prop := fnIdsOfAgreesAtEveryCutRow.holds Try.pinned (OpenSpec.ofChange fnIdsOfAgreesAtEveryCutSpec)

/-- ITS FALSE NEIGHBOUR: 'it returns false'. Refute it at one input. -/
def fnIdsOfAgreesAtEveryCutWrong : ChangeSpec := { name := "fnIdsOfAgreesAtEveryCut", fn := fun _ => fun
  | [d1, d2] => { results := [.lit (.bool false)], args := [d1, d2] }
  | _ => none }
def FnIdsOfAgreesAtEveryCutWrongFalsely : Prop := fnIdsOfAgreesAtEveryCutRow.holds Try.pinned (OpenSpec.ofChange fnIdsOfAgreesAtEveryCutWrong)

end Rows
end Go.Proofs.Qxb6609125a
