/-
  DERIVED. GIVEN WITH THE SEED: THE CARDS: each row of Qxb6608912aFmtRows.lean that lists a variable, with what it lists TIED to the program's text (the seventh form; the later family's looks); each row that meets fmt, with fmt's text TOLD by the authors' own Lean function (tested against real Go, not proved from fmt's source: count such statements apart). THE CARD IS WHAT COUNTS. Prove the row's statement (the work); the ties are given (Qxb6608912aFmtTie.lean); close each card by the builder's one call (the guide's Derived/Test/ToyasCard.lean, 'card_holds'). Laid BY PROGRAM, IN A SANDBOX (cutbox-door.mjs). By AI agents, Wed Nov 11 2026. No macro, syntax, notation, axiom, sorry.
-/
import Derived.Test.Qxb6608912aFmtRows
import GoSem.ClaimSeven
namespace Go.Proofs.Qxb6608912aFmt
namespace Rows

/-- THE TOLD CARD OF 'zzlaws_root_b1.FnTallyAddRefusesPastMaxRegisters'. -/
def fnTallyAddRefusesPastMaxRegistersCard : Claim7 := { stood := { row := fnTallyAddRefusesPastMaxRegistersRow, standIns := [], harness := (true, "fd6f8f56dc6df512937f8d10c6e87fa1eb5c0b9152f8f44404864a0ca9b1575f"), looks := false }, told := true, goes := false }
def FnTallyAddRefusesPastMaxRegistersToldSaid : Prop := Claim7.holds Tryf.pinned (.plain (OpenSpec.ofChange fnTallyAddRefusesPastMaxRegistersSpec)) fnTallyAddRefusesPastMaxRegistersCard
/-- ITS FALSE NEIGHBOUR. Refute it at one input. -/
def FnTallyAddRefusesPastMaxRegistersToldWrongFalsely : Prop := Claim7.holds Tryf.pinned (.plain (OpenSpec.ofChange fnTallyAddRefusesPastMaxRegistersWrong)) fnTallyAddRefusesPastMaxRegistersCard

/-- THE TOLD CARD OF 'zzlaws_root_b1.FnRegisterStringIdentifiesRegisters'. -/
def fnRegisterStringIdentifiesRegistersCard : Claim7 := { stood := { row := fnRegisterStringIdentifiesRegistersRow, standIns := [], harness := (true, "fd6f8f56dc6df512937f8d10c6e87fa1eb5c0b9152f8f44404864a0ca9b1575f"), looks := false }, told := true, goes := false }
def FnRegisterStringIdentifiesRegistersToldSaid : Prop := Claim7.holds Tryf.pinned (.plain (OpenSpec.ofChange fnRegisterStringIdentifiesRegistersSpec)) fnRegisterStringIdentifiesRegistersCard
/-- ITS FALSE NEIGHBOUR. Refute it at one input. -/
def FnRegisterStringIdentifiesRegistersToldWrongFalsely : Prop := Claim7.holds Tryf.pinned (.plain (OpenSpec.ofChange fnRegisterStringIdentifiesRegistersWrong)) fnRegisterStringIdentifiesRegistersCard

/-- THE TOLD CARD OF 'zzlaws_root_b1.FnRegisterStringNVFixedWidthOrdered'. -/
def fnRegisterStringNVFixedWidthOrderedCard : Claim7 := { stood := { row := fnRegisterStringNVFixedWidthOrderedRow, standIns := [], harness := (true, "fd6f8f56dc6df512937f8d10c6e87fa1eb5c0b9152f8f44404864a0ca9b1575f"), looks := false }, told := true, goes := false }
def FnRegisterStringNVFixedWidthOrderedToldSaid : Prop := Claim7.holds Tryf.pinned (.plain (OpenSpec.ofChange fnRegisterStringNVFixedWidthOrderedSpec)) fnRegisterStringNVFixedWidthOrderedCard
/-- ITS FALSE NEIGHBOUR. Refute it at one input. -/
def FnRegisterStringNVFixedWidthOrderedToldWrongFalsely : Prop := Claim7.holds Tryf.pinned (.plain (OpenSpec.ofChange fnRegisterStringNVFixedWidthOrderedWrong)) fnRegisterStringNVFixedWidthOrderedCard
end Rows
end Go.Proofs.Qxb6608912aFmt
