/-
  DERIVED. GIVEN WITH THE SEED: THE CARDS: each row of Qxb6615904aFmtRows.lean that lists a variable, with what it lists TIED to the program's text (the seventh form; the later family's looks); each row that meets fmt, with fmt's text TOLD by the authors' own Lean function (tested against real Go, not proved from fmt's source: count such statements apart). THE CARD IS WHAT COUNTS. Prove the row's statement (the work); the ties are given (Qxb6615904aFmtTie.lean); close each card by the builder's one call (the guide's Derived/Test/ToyasCard.lean, 'card_holds'). Laid BY PROGRAM, IN A SANDBOX (cutbox-door.mjs). By AI agents, Wed Nov 11 2026. No macro, syntax, notation, axiom, sorry.
-/
import Derived.Test.Qxb6615904aFmtRows
import GoSem.ClaimSeven
namespace Go.Proofs.Qxb6615904aFmt
namespace Rows

/-- THE TOLD AND TIED CARD OF 'zzlaws_thrift_b1.FnAppendItemsSplitsAtAnyCut'. -/
def fnAppendItemsSplitsAtAnyCutCard : Claim7 := { stood := { row := fnAppendItemsSplitsAtAnyCutRow, standIns := [], harness := (true, "489900099098174509bfbf26da691cbef9ed35b79074811e4694cd5afb07b5f8"), looks := true }, told := true, laidByText := true, laidKinds := [.data, .sentinel], laidTests := true, laidLooks := .later, goes := false }
def FnAppendItemsSplitsAtAnyCutToldSaid : Prop := Claim7.holds Tryf.pinned (.plain (OpenSpec.ofChange fnAppendItemsSplitsAtAnyCutSpec)) fnAppendItemsSplitsAtAnyCutCard
/-- ITS FALSE NEIGHBOUR. Refute it at one input. -/
def FnAppendItemsSplitsAtAnyCutToldWrongFalsely : Prop := Claim7.holds Tryf.pinned (.plain (OpenSpec.ofChange fnAppendItemsSplitsAtAnyCutWrong)) fnAppendItemsSplitsAtAnyCutCard

/-- THE TOLD AND TIED CARD OF 'zzlaws_thrift_b1.FnI32TypeSaysHowItIsWritten'. -/
def fnI32TypeSaysHowItIsWrittenCard : Claim7 := { stood := { row := fnI32TypeSaysHowItIsWrittenRow, standIns := [], harness := (true, "489900099098174509bfbf26da691cbef9ed35b79074811e4694cd5afb07b5f8"), looks := true }, told := true, laidByText := true, laidKinds := [.data, .data, .data, .data, .sentinel], laidTests := true, laidLooks := .later, goes := false }
def FnI32TypeSaysHowItIsWrittenToldSaid : Prop := Claim7.holds Tryf.pinned (.plain (OpenSpec.ofChange fnI32TypeSaysHowItIsWrittenSpec)) fnI32TypeSaysHowItIsWrittenCard
/-- ITS FALSE NEIGHBOUR. Refute it at one input. -/
def FnI32TypeSaysHowItIsWrittenToldWrongFalsely : Prop := Claim7.holds Tryf.pinned (.plain (OpenSpec.ofChange fnI32TypeSaysHowItIsWrittenWrong)) fnI32TypeSaysHowItIsWrittenCard

/-- THE TOLD AND TIED CARD OF 'zzlaws_thrift_b1.FnI32TypeIsTheOneElemTypeThatTakesIt'. -/
def fnI32TypeIsTheOneElemTypeThatTakesItCard : Claim7 := { stood := { row := fnI32TypeIsTheOneElemTypeThatTakesItRow, standIns := [], harness := (true, "489900099098174509bfbf26da691cbef9ed35b79074811e4694cd5afb07b5f8"), looks := true }, told := true, laidByText := true, laidKinds := [.data, .sentinel], laidTests := true, laidLooks := .later, goes := false }
def FnI32TypeIsTheOneElemTypeThatTakesItToldSaid : Prop := Claim7.holds Tryf.pinned (.plain (OpenSpec.ofChange fnI32TypeIsTheOneElemTypeThatTakesItSpec)) fnI32TypeIsTheOneElemTypeThatTakesItCard
/-- ITS FALSE NEIGHBOUR. Refute it at one input. -/
def FnI32TypeIsTheOneElemTypeThatTakesItToldWrongFalsely : Prop := Claim7.holds Tryf.pinned (.plain (OpenSpec.ofChange fnI32TypeIsTheOneElemTypeThatTakesItWrong)) fnI32TypeIsTheOneElemTypeThatTakesItCard
end Rows
end Go.Proofs.Qxb6615904aFmt
