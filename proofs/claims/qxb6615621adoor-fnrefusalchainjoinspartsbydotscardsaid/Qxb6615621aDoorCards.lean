/-
  DERIVED. GIVEN WITH THE SEED: THE CARDS: each row of Qxb6615621aDoorRows.lean that lists a variable, with what it lists TIED to the program's text (the seventh form; the later family's looks); each row that meets fmt, with fmt's text TOLD by the authors' own Lean function (tested against real Go, not proved from fmt's source: count such statements apart). THE CARD IS WHAT COUNTS. Prove the row's statement (the work); the ties are given (Qxb6615621aDoorTie.lean); close each card by the builder's one call (the guide's Derived/Test/ToyasCard.lean, 'card_holds'). Laid BY PROGRAM, IN A SANDBOX (cutbox-door.mjs). By AI agents, Wed Nov 11 2026. No macro, syntax, notation, axiom, sorry.
-/
import Derived.Test.Qxb6615621aDoorRows
import GoSem.ClaimSeven
namespace Go.Proofs.Qxb6615621aDoor
namespace Rows

/-- THE TIED CARD OF 'zzlaws_internal_jsonread_b1.FnRefusalChainJoinsPartsByDots'. -/
def fnRefusalChainJoinsPartsByDotsCard : Claim7 := { stood := { row := fnRefusalChainJoinsPartsByDotsRow, standIns := [], harness := (true, "efe7dd62420fb85e32c4bea328f1bb21a2b3eba575da805529d4cd3123b089ce"), looks := true }, kinds := [], alts := [], laidByText := true, laidKinds := [.handle], laidTests := true, laidLooks := .later }
def FnRefusalChainJoinsPartsByDotsCardSaid : Prop := Claim7.holds Tryd.pinned (.plain (OpenSpec.ofChange fnRefusalChainJoinsPartsByDotsSpec)) fnRefusalChainJoinsPartsByDotsCard
end Rows
end Go.Proofs.Qxb6615621aDoor
