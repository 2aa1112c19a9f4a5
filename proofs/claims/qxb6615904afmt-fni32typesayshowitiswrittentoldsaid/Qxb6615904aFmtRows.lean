/-
  NARROWER THAN 'FOR EVERY INPUT', by the rows' own cells (each row's printed sentence says how): FnAppendItemsSplitsAtAnyCut: ifaces, laid · FnI32TypeSaysHowItIsWritten: ifaces, laid · FnI32TypeIsTheOneElemTypeThatTakesIt: ifaces, laid.
  DERIVED. THE GIVEN ROWS OF THIS SEAT. 3 by the template 'for every input the law returns true; each argument reads behind the call as it read before'; 0 by the template 'total and deterministic' (their statements: Qxb6615904aFmtTotals.lean).
  GIVEN WITH THE SEED: the statements are not yours to turn. If you find one false, say at which input.
  Laid BY PROGRAM, IN A SANDBOX (cutbox-rows.mjs): the forced cells as the released guide's own fill.sh prints them over the translation 26c2a19891afb69b… (all of the seat's roots in one cut). By AI agents, Wed Nov 11 2026. No macro, syntax, notation, axiom, sorry.
-/
import Derived.Test.Qxb6615904aFmtChecked
import GoSem.Claim
import GoSem.ClaimJoined
import GoSem.ClaimMapViews
import Derived.JoinedTies
import Derived.KernelRfl
namespace Go.Proofs.Qxb6615904aFmt
/- THE CELL 'sum', in the pinned program and in every row, IS THE sha256 OF THE DUMP (.gsa) THAT Qxb6615904aFmtProg.lean LOADS. Nothing in Lean hashes anything: it is a label: what it is worth is what the hold of that sum in a sandbox is worth. -/
noncomputable def Tryf.pinned : Pinned := { name := "qxb6615904afmt", sum := "26c2a19891afb69b6318a9ddd214eefac6883d95878c476d973842312fa152d1", checked := Tryf.checked }
namespace Rows
def none {H : Type} : Left H := { results := [], args := [] }

/- WHAT THE LISTED PACKAGE-LEVEL VARIABLES READ AS WHEN THE CALL BEGINS. Each datum BY PROGRAM (the guide's laid-datum.mjs) off the statement by which the dump's own 'gosem.cut.vars' lays the variable. In a bare row this is a premise. The card (Qxb6615904aFmtCards.lean) ties it to the program's text. -/
def laid_example_com_lockframe_lockframe_thrift_types {H : Type} : DataW H := .agg [.agg [.lit (.string []), .lit (.int .i64 0)], .agg [.lit (.string []), .lit (.int .i64 0)], .agg [.lit (.string [98, 111, 111, 108]), .lit (.int .i64 1)], .agg [.lit (.string [105, 56]), .lit (.int .i64 1)], .agg [.lit (.string [100, 111, 117, 98, 108, 101]), .lit (.int .i64 8)], .agg [.lit (.string []), .lit (.int .i64 0)], .agg [.lit (.string [105, 49, 54]), .lit (.int .i64 2)], .agg [.lit (.string []), .lit (.int .i64 0)], .agg [.lit (.string [105, 51, 50]), .lit (.int .i64 4)], .agg [.lit (.string []), .lit (.int .i64 0)], .agg [.lit (.string [105, 54, 52]), .lit (.int .i64 8)], .agg [.lit (.string [98, 105, 110, 97, 114, 121]), .lit (.int .i64 4)], .agg [.lit (.string [115, 116, 114, 117, 99, 116]), .lit (.int .i64 1)], .agg [.lit (.string [109, 97, 112]), .lit (.int .i64 6)], .agg [.lit (.string [115, 101, 116]), .lit (.int .i64 5)], .agg [.lit (.string [108, 105, 115, 116]), .lit (.int .i64 5)]]
def laid_example_com_lockframe_lockframe_thrift_ErrInvalid {H : Type} : DataW H := .iface "*errors.errorString" (.ptr (.agg [.lit (.string [105, 110, 118, 97, 108, 105, 100, 32, 84, 104, 114, 105, 102, 116, 32, 118, 97, 108, 117, 101])]))
def laid_math_bits_deBruijn32tab {H : Type} : DataW H := .agg [.lit (.int .u8 0), .lit (.int .u8 1), .lit (.int .u8 28), .lit (.int .u8 2), .lit (.int .u8 29), .lit (.int .u8 14), .lit (.int .u8 24), .lit (.int .u8 3), .lit (.int .u8 30), .lit (.int .u8 22), .lit (.int .u8 20), .lit (.int .u8 15), .lit (.int .u8 25), .lit (.int .u8 17), .lit (.int .u8 4), .lit (.int .u8 8), .lit (.int .u8 31), .lit (.int .u8 27), .lit (.int .u8 13), .lit (.int .u8 23), .lit (.int .u8 21), .lit (.int .u8 19), .lit (.int .u8 16), .lit (.int .u8 7), .lit (.int .u8 26), .lit (.int .u8 12), .lit (.int .u8 18), .lit (.int .u8 6), .lit (.int .u8 11), .lit (.int .u8 5), .lit (.int .u8 10), .lit (.int .u8 9)]
def laid_math_bits_deBruijn64tab {H : Type} : DataW H := .agg [.lit (.int .u8 0), .lit (.int .u8 1), .lit (.int .u8 56), .lit (.int .u8 2), .lit (.int .u8 57), .lit (.int .u8 49), .lit (.int .u8 28), .lit (.int .u8 3), .lit (.int .u8 61), .lit (.int .u8 58), .lit (.int .u8 42), .lit (.int .u8 50), .lit (.int .u8 38), .lit (.int .u8 29), .lit (.int .u8 17), .lit (.int .u8 4), .lit (.int .u8 62), .lit (.int .u8 47), .lit (.int .u8 59), .lit (.int .u8 36), .lit (.int .u8 45), .lit (.int .u8 43), .lit (.int .u8 51), .lit (.int .u8 22), .lit (.int .u8 53), .lit (.int .u8 39), .lit (.int .u8 33), .lit (.int .u8 30), .lit (.int .u8 24), .lit (.int .u8 18), .lit (.int .u8 12), .lit (.int .u8 5), .lit (.int .u8 63), .lit (.int .u8 55), .lit (.int .u8 48), .lit (.int .u8 27), .lit (.int .u8 60), .lit (.int .u8 41), .lit (.int .u8 37), .lit (.int .u8 16), .lit (.int .u8 46), .lit (.int .u8 35), .lit (.int .u8 44), .lit (.int .u8 21), .lit (.int .u8 52), .lit (.int .u8 32), .lit (.int .u8 23), .lit (.int .u8 11), .lit (.int .u8 54), .lit (.int .u8 26), .lit (.int .u8 40), .lit (.int .u8 15), .lit (.int .u8 34), .lit (.int .u8 20), .lit (.int .u8 31), .lit (.int .u8 10), .lit (.int .u8 25), .lit (.int .u8 14), .lit (.int .u8 19), .lit (.int .u8 9), .lit (.int .u8 13), .lit (.int .u8 8), .lit (.int .u8 7), .lit (.int .u8 6)]
def laid_internal_strconv_uint64pow10 {H : Type} : DataW H := .agg [.lit (.int .u64 1), .lit (.int .u64 10), .lit (.int .u64 100), .lit (.int .u64 1000), .lit (.int .u64 10000), .lit (.int .u64 100000), .lit (.int .u64 1000000), .lit (.int .u64 10000000), .lit (.int .u64 100000000), .lit (.int .u64 1000000000), .lit (.int .u64 10000000000), .lit (.int .u64 100000000000), .lit (.int .u64 1000000000000), .lit (.int .u64 10000000000000), .lit (.int .u64 100000000000000), .lit (.int .u64 1000000000000000), .lit (.int .u64 10000000000000000), .lit (.int .u64 100000000000000000), .lit (.int .u64 1000000000000000000), .lit (.int .u64 10000000000000000000)]

/-- 'zzlaws_thrift_b1.FnAppendItemsSplitsAtAnyCut': WHATEVER THE INPUT: true; the input reads as it did. -/
def fnAppendItemsSplitsAtAnyCutSpec : ChangeSpec := { name := "fnAppendItemsSplitsAtAnyCut", vars := ["example.com/lockframe/lockframe/thrift.ErrInvalid", "example.com/lockframe/lockframe/thrift.types"], fn := fun _ => fun
  | [d1, d2, d3, d4, d5, g1, g2] => { results := [.lit (.bool true)], args := [d1, d2, d3, d4, d5], vars := [g1, g2] }
  | _ => none }
def fnAppendItemsSplitsAtAnyCutRow : OpenClaim := { program := "qxb6615904afmt", sum := "26c2a19891afb69b6318a9ddd214eefac6883d95878c476d973842312fa152d1", func := "example.com/lockframe/lockframe/zzlaws_thrift_b1.FnAppendItemsSplitsAtAnyCut", spec := "fnAppendItemsSplitsAtAnyCut", stops := ["fmt.errorf, its operands' methods called"], inPlace := ["fmt.errorf", "math.Float64bits"], unfollowed := true, recurses := true, named := ["example.com/lockframe/lockframe/thrift.ErrInvalid", "example.com/lockframe/lockframe/thrift.types", "encoding/binary.BigEndian"], ifaces := true, apart := false, laid := [("example.com/lockframe/lockframe/thrift.types", laid_example_com_lockframe_lockframe_thrift_types), ("example.com/lockframe/lockframe/thrift.ErrInvalid", laid_example_com_lockframe_lockframe_thrift_ErrInvalid)] }
/-- NO THEOREM (fmt's text is open here; it may be false): for the released tool's asking of the row's closed facts alone. THE STATEMENT IS 'FnAppendItemsSplitsAtAnyCutToldSaid' (Qxb6615904aFmtCards.lean). -/
def FnAppendItemsSplitsAtAnyCutFormAsk : Prop := fnAppendItemsSplitsAtAnyCutRow.holds Tryf.pinned (OpenSpec.ofChange fnAppendItemsSplitsAtAnyCutSpec)

/-- ITS FALSE NEIGHBOUR: 'it returns false'. Refute it at one input. -/
def fnAppendItemsSplitsAtAnyCutWrong : ChangeSpec := { name := "fnAppendItemsSplitsAtAnyCut", vars := ["example.com/lockframe/lockframe/thrift.ErrInvalid", "example.com/lockframe/lockframe/thrift.types"], fn := fun _ => fun
  | [d1, d2, d3, d4, d5, g1, g2] => { results := [.lit (.bool false)], args := [d1, d2, d3, d4, d5], vars := [g1, g2] }
  | _ => none }
def FnAppendItemsSplitsAtAnyCutWrongFormAsk : Prop := fnAppendItemsSplitsAtAnyCutRow.holds Tryf.pinned (OpenSpec.ofChange fnAppendItemsSplitsAtAnyCutWrong)

/-- 'zzlaws_thrift_b1.FnI32TypeSaysHowItIsWritten': WHATEVER THE INPUT: true; the input reads as it did. -/
def fnI32TypeSaysHowItIsWrittenSpec : ChangeSpec := { name := "fnI32TypeSaysHowItIsWritten", vars := ["example.com/lockframe/lockframe/thrift.ErrInvalid", "example.com/lockframe/lockframe/thrift.types"], fn := fun _ => fun
  | [d1, d2, g1, g2] => { results := [.lit (.bool true)], args := [d1, d2], vars := [g1, g2] }
  | _ => none }
def fnI32TypeSaysHowItIsWrittenRow : OpenClaim := { program := "qxb6615904afmt", sum := "26c2a19891afb69b6318a9ddd214eefac6883d95878c476d973842312fa152d1", func := "example.com/lockframe/lockframe/zzlaws_thrift_b1.FnI32TypeSaysHowItIsWritten", spec := "fnI32TypeSaysHowItIsWritten", stops := ["fmt.errorf, its operands' methods called"], inPlace := ["fmt.errorf", "math.Float64bits"], unfollowed := true, recurses := true, named := ["encoding/binary.BigEndian", "example.com/lockframe/lockframe/thrift.ErrInvalid", "example.com/lockframe/lockframe/thrift.types", "internal/strconv.uint64pow10", "math/bits.deBruijn32tab", "math/bits.deBruijn64tab"], ifaces := true, apart := false, laid := [("math/bits.deBruijn32tab", laid_math_bits_deBruijn32tab), ("math/bits.deBruijn64tab", laid_math_bits_deBruijn64tab), ("internal/strconv.uint64pow10", laid_internal_strconv_uint64pow10), ("example.com/lockframe/lockframe/thrift.types", laid_example_com_lockframe_lockframe_thrift_types), ("example.com/lockframe/lockframe/thrift.ErrInvalid", laid_example_com_lockframe_lockframe_thrift_ErrInvalid)] }
/-- NO THEOREM (fmt's text is open here; it may be false): for the released tool's asking of the row's closed facts alone. THE STATEMENT IS 'FnI32TypeSaysHowItIsWrittenToldSaid' (Qxb6615904aFmtCards.lean). -/
def FnI32TypeSaysHowItIsWrittenFormAsk : Prop := fnI32TypeSaysHowItIsWrittenRow.holds Tryf.pinned (OpenSpec.ofChange fnI32TypeSaysHowItIsWrittenSpec)

/-- ITS FALSE NEIGHBOUR: 'it returns false'. Refute it at one input. -/
def fnI32TypeSaysHowItIsWrittenWrong : ChangeSpec := { name := "fnI32TypeSaysHowItIsWritten", vars := ["example.com/lockframe/lockframe/thrift.ErrInvalid", "example.com/lockframe/lockframe/thrift.types"], fn := fun _ => fun
  | [d1, d2, g1, g2] => { results := [.lit (.bool false)], args := [d1, d2], vars := [g1, g2] }
  | _ => none }
def FnI32TypeSaysHowItIsWrittenWrongFormAsk : Prop := fnI32TypeSaysHowItIsWrittenRow.holds Tryf.pinned (OpenSpec.ofChange fnI32TypeSaysHowItIsWrittenWrong)

/-- 'zzlaws_thrift_b1.FnI32TypeIsTheOneElemTypeThatTakesIt': WHATEVER THE INPUT: true; the input reads as it did. -/
def fnI32TypeIsTheOneElemTypeThatTakesItSpec : ChangeSpec := { name := "fnI32TypeIsTheOneElemTypeThatTakesIt", vars := ["example.com/lockframe/lockframe/thrift.ErrInvalid", "example.com/lockframe/lockframe/thrift.types"], fn := fun _ => fun
  | [d, g1, g2] => { results := [.lit (.bool true)], args := [d], vars := [g1, g2] }
  | _ => none }
def fnI32TypeIsTheOneElemTypeThatTakesItRow : OpenClaim := { program := "qxb6615904afmt", sum := "26c2a19891afb69b6318a9ddd214eefac6883d95878c476d973842312fa152d1", func := "example.com/lockframe/lockframe/zzlaws_thrift_b1.FnI32TypeIsTheOneElemTypeThatTakesIt", spec := "fnI32TypeIsTheOneElemTypeThatTakesIt", stops := ["fmt.errorf, its operands' methods called"], inPlace := ["fmt.errorf", "math.Float64bits"], unfollowed := true, recurses := true, named := ["example.com/lockframe/lockframe/thrift.ErrInvalid", "example.com/lockframe/lockframe/thrift.types", "encoding/binary.BigEndian"], ifaces := true, apart := false, laid := [("example.com/lockframe/lockframe/thrift.types", laid_example_com_lockframe_lockframe_thrift_types), ("example.com/lockframe/lockframe/thrift.ErrInvalid", laid_example_com_lockframe_lockframe_thrift_ErrInvalid)] }
/-- NO THEOREM (fmt's text is open here; it may be false): for the released tool's asking of the row's closed facts alone. THE STATEMENT IS 'FnI32TypeIsTheOneElemTypeThatTakesItToldSaid' (Qxb6615904aFmtCards.lean). -/
def FnI32TypeIsTheOneElemTypeThatTakesItFormAsk : Prop := fnI32TypeIsTheOneElemTypeThatTakesItRow.holds Tryf.pinned (OpenSpec.ofChange fnI32TypeIsTheOneElemTypeThatTakesItSpec)

/-- ITS FALSE NEIGHBOUR: 'it returns false'. Refute it at one input. -/
def fnI32TypeIsTheOneElemTypeThatTakesItWrong : ChangeSpec := { name := "fnI32TypeIsTheOneElemTypeThatTakesIt", vars := ["example.com/lockframe/lockframe/thrift.ErrInvalid", "example.com/lockframe/lockframe/thrift.types"], fn := fun _ => fun
  | [d, g1, g2] => { results := [.lit (.bool false)], args := [d], vars := [g1, g2] }
  | _ => none }
def FnI32TypeIsTheOneElemTypeThatTakesItWrongFormAsk : Prop := fnI32TypeIsTheOneElemTypeThatTakesItRow.holds Tryf.pinned (OpenSpec.ofChange fnI32TypeIsTheOneElemTypeThatTakesItWrong)

end Rows
end Go.Proofs.Qxb6615904aFmt
