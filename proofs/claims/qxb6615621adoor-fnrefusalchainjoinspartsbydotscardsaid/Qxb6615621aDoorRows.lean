/-
  NARROWER THAN 'FOR EVERY INPUT', by the rows' own cells (each row's printed sentence says how): FnRefusalChainJoinsPartsByDots: laid.
  DERIVED. THE GIVEN ROWS OF THIS SEAT. 1 by the template 'for every input the law returns true; each argument reads behind the call as it read before'; 0 by the template 'total and deterministic' (their statements: Qxb6615621aDoorTotals.lean).
  GIVEN WITH THE SEED: the statements are not yours to turn. If you find one false, say at which input.
  Laid BY PROGRAM, IN A SANDBOX (cutbox-rows.mjs): the forced cells as the released guide's own fill.sh prints them over the translation f0b0a563454218c1… (all of the seat's roots in one cut). By AI agents, Wed Nov 11 2026. No macro, syntax, notation, axiom, sorry.
-/
import Derived.Test.Qxb6615621aDoorChecked
import GoSem.Claim
import GoSem.ClaimJoined
import GoSem.ClaimMapViews
import Derived.JoinedTies
import Derived.KernelRfl
namespace Go.Proofs.Qxb6615621aDoor
/- THE CELL 'sum', in the pinned program and in every row, IS THE sha256 OF THE DUMP (.gsa) THAT Qxb6615621aDoorProg.lean LOADS. Nothing in Lean hashes anything: it is a label: what it is worth is what the hold of that sum in a sandbox is worth. -/
noncomputable def Tryd.pinned : Pinned := { name := "qxb6615621adoor", sum := "f0b0a563454218c1e870fc415c61963cb6336f90d7def0342f94400a57686010", checked := Tryd.checked }
namespace Rows
def none {H : Type} : Left H := { results := [], args := [] }

/- WHAT THE LISTED PACKAGE-LEVEL VARIABLES READ AS WHEN THE CALL BEGINS. Each datum BY PROGRAM (the guide's laid-datum.mjs) off the statement by which the dump's own 'gosem.cut.vars' lays the variable. In a bare row this is a premise. The card (Qxb6615621aDoorCards.lean) ties it to the program's text. -/
def laid_errors_errorType {H : Type} : DataW H := .iface "internal/reflectlite.rtype" (.agg [.ptr (.lit (.string [101, 114, 114, 111, 114]))])

/-- 'zzlaws_internal_jsonread_b1.FnRefusalChainJoinsPartsByDots': WHATEVER THE INPUT: true; the input reads as it did. -/
def fnRefusalChainJoinsPartsByDotsSpec : ChangeSpec := { name := "fnRefusalChainJoinsPartsByDots", fn := fun _ => fun
  | [d1, d2] => { results := [.lit (.bool true)], args := [d1, d2] }
  | _ => none }
def fnRefusalChainJoinsPartsByDotsRow : OpenClaim := { program := "qxb6615621adoor", sum := "f0b0a563454218c1e870fc415c61963cb6336f90d7def0342f94400a57686010", func := "example.com/dialect-bridge/dialect-bridge/zzlaws_internal_jsonread_b1.FnRefusalChainJoinsPartsByDots", spec := "fnRefusalChainJoinsPartsByDots", inPlace := ["internal/reflectlite.ValueOf", "(internal/reflectlite.Value).Type", "(internal/reflectlite.Value).IsNil", "internal/reflectlite.TypeOf", "(internal/reflectlite.Value).Elem", "(internal/reflectlite.Value).Set"], unfollowed := true, recurses := true, named := ["errors.errorType"], apart := false, laid := [("errors.errorType", laid_errors_errorType)] }
def FnRefusalChainJoinsPartsByDotsSaid : Prop := fnRefusalChainJoinsPartsByDotsRow.holds Tryd.pinned (OpenSpec.ofChange fnRefusalChainJoinsPartsByDotsSpec)

/-- ITS FALSE NEIGHBOUR: 'it returns false'. Refute it at one input. -/
def fnRefusalChainJoinsPartsByDotsWrong : ChangeSpec := { name := "fnRefusalChainJoinsPartsByDots", fn := fun _ => fun
  | [d1, d2] => { results := [.lit (.bool false)], args := [d1, d2] }
  | _ => none }
def FnRefusalChainJoinsPartsByDotsWrongFalsely : Prop := fnRefusalChainJoinsPartsByDotsRow.holds Tryd.pinned (OpenSpec.ofChange fnRefusalChainJoinsPartsByDotsWrong)

end Rows
end Go.Proofs.Qxb6615621aDoor
