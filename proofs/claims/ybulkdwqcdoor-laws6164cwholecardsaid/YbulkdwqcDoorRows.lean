/-
  NARROWER THAN 'FOR EVERY INPUT', by the rows' own cells (each row's printed sentence says how): LawS6164AWhole: laid · LawS6164CWhole: laid.
  DERIVED. THE GIVEN ROWS OF THIS SEAT. 2 by the template 'for every input the law returns true; each argument reads behind the call as it read before'; 0 by the template 'total and deterministic' (their statements: YbulkdwqcDoorTotals.lean).
  GIVEN WITH THE SEED: the statements are not yours to turn. If you find one false, say at which input.
  Laid BY PROGRAM, IN A SANDBOX (cutbox-rows.mjs): the forced cells as the released guide's own fill.sh prints them over the translation 61741a310a9c92d3… (all of the seat's roots in one cut). By AI agents, Wed Nov 11 2026. No macro, syntax, notation, axiom, sorry.
-/
import Derived.Test.YbulkdwqcDoorChecked
import GoSem.Claim
import GoSem.ClaimJoined
import GoSem.ClaimMapViews
import Derived.JoinedTies
import Derived.KernelRfl
namespace Go.Proofs.YbulkdwqcDoor
/- THE CELL 'sum', in the pinned program and in every row, IS THE sha256 OF THE DUMP (.gsa) THAT YbulkdwqcDoorProg.lean LOADS. Nothing in Lean hashes anything: it is a label: what it is worth is what the hold of that sum in a sandbox is worth. -/
noncomputable def Ybad.pinned : Pinned := { name := "ybulkdwqcdoor", sum := "61741a310a9c92d3edd8d4a1ce1705274bbfdb8db2eec686fe76a5f7215564b4", checked := Ybad.checked }
namespace Rows
def none {H : Type} : Left H := { results := [], args := [] }

/- WHAT THE LISTED PACKAGE-LEVEL VARIABLES READ AS WHEN THE CALL BEGINS. Each datum BY PROGRAM (the guide's laid-datum.mjs) off the statement by which the dump's own 'gosem.cut.vars' lays the variable. In a bare row this is a premise. The card (YbulkdwqcDoorCards.lean) ties it to the program's text. -/
def laid_math_bits_deBruijn64tab {H : Type} : DataW H := .agg [.lit (.int .u8 0), .lit (.int .u8 1), .lit (.int .u8 56), .lit (.int .u8 2), .lit (.int .u8 57), .lit (.int .u8 49), .lit (.int .u8 28), .lit (.int .u8 3), .lit (.int .u8 61), .lit (.int .u8 58), .lit (.int .u8 42), .lit (.int .u8 50), .lit (.int .u8 38), .lit (.int .u8 29), .lit (.int .u8 17), .lit (.int .u8 4), .lit (.int .u8 62), .lit (.int .u8 47), .lit (.int .u8 59), .lit (.int .u8 36), .lit (.int .u8 45), .lit (.int .u8 43), .lit (.int .u8 51), .lit (.int .u8 22), .lit (.int .u8 53), .lit (.int .u8 39), .lit (.int .u8 33), .lit (.int .u8 30), .lit (.int .u8 24), .lit (.int .u8 18), .lit (.int .u8 12), .lit (.int .u8 5), .lit (.int .u8 63), .lit (.int .u8 55), .lit (.int .u8 48), .lit (.int .u8 27), .lit (.int .u8 60), .lit (.int .u8 41), .lit (.int .u8 37), .lit (.int .u8 16), .lit (.int .u8 46), .lit (.int .u8 35), .lit (.int .u8 44), .lit (.int .u8 21), .lit (.int .u8 52), .lit (.int .u8 32), .lit (.int .u8 23), .lit (.int .u8 11), .lit (.int .u8 54), .lit (.int .u8 26), .lit (.int .u8 40), .lit (.int .u8 15), .lit (.int .u8 34), .lit (.int .u8 20), .lit (.int .u8 31), .lit (.int .u8 10), .lit (.int .u8 25), .lit (.int .u8 14), .lit (.int .u8 19), .lit (.int .u8 9), .lit (.int .u8 13), .lit (.int .u8 8), .lit (.int .u8 7), .lit (.int .u8 6)]
def laid_example_com_ebbwatch_ebbwatch_pkg_record_pow10 {H : Type} : DataW H := .agg [.lit (.float .f64 4607182418800017408), .lit (.float .f64 4621819117588971520), .lit (.float .f64 4636737291354636288), .lit (.float .f64 4652007308841189376), .lit (.float .f64 4666723172467343360), .lit (.float .f64 4681608360884174848), .lit (.float .f64 4696837146684686336), .lit (.float .f64 4711630319722168320), .lit (.float .f64 4726483295884279808), .lit (.float .f64 4741671816366391296), .lit (.float .f64 4756540486875873280), .lit (.float .f64 4771362005757984768), .lit (.float .f64 4786511204640096256), .lit (.float .f64 4801453603149578240), .lit (.float .f64 4816244402031689728), .lit (.float .f64 4831355200913801216), .lit (.float .f64 4846369599423283200), .lit (.float .f64 4861130398305394688), .lit (.float .f64 4876203697187506176), .lit (.float .f64 4891288408196988160), .lit (.float .f64 4906019910204099648), .lit (.float .f64 4921056587992461136), .lit (.float .f64 4936209963552724370)]

/-- 'record.LawS6164AWhole': WHATEVER THE INPUT: true; the input reads as it did. -/
def lawS6164AWholeSpec : ChangeSpec := { name := "lawS6164AWhole", fn := fun _ => fun
  | [d1, d2] => { results := [.lit (.bool true)], args := [d1, d2] }
  | _ => none }
def lawS6164AWholeRow : OpenClaim := { program := "ybulkdwqcdoor", sum := "61741a310a9c92d3edd8d4a1ce1705274bbfdb8db2eec686fe76a5f7215564b4", func := "example.com/ebbwatch/ebbwatch/pkg/record.LawS6164AWhole", spec := "lawS6164AWhole", named := ["encoding/binary.LittleEndian", "math/bits.deBruijn64tab"], apart := false, laid := [("math/bits.deBruijn64tab", laid_math_bits_deBruijn64tab)] }
def LawS6164AWholeSaid : Prop := lawS6164AWholeRow.holds Ybad.pinned (OpenSpec.ofChange lawS6164AWholeSpec)

/-- ITS FALSE NEIGHBOUR: 'it returns false'. Refute it at one input. -/
def lawS6164AWholeWrong : ChangeSpec := { name := "lawS6164AWhole", fn := fun _ => fun
  | [d1, d2] => { results := [.lit (.bool false)], args := [d1, d2] }
  | _ => none }
def LawS6164AWholeWrongFalsely : Prop := lawS6164AWholeRow.holds Ybad.pinned (OpenSpec.ofChange lawS6164AWholeWrong)

/-- 'record.LawS6164CWhole': WHATEVER THE INPUT: true; the input reads as it did. -/
def lawS6164CWholeSpec : ChangeSpec := { name := "lawS6164CWhole", vars := ["example.com/ebbwatch/ebbwatch/pkg/record.pow10"], fn := fun _ => fun
  | [d1, d2, g1] => { results := [.lit (.bool true)], args := [d1, d2], vars := [g1] }
  | _ => none }
def lawS6164CWholeRow : OpenClaim := { program := "ybulkdwqcdoor", sum := "61741a310a9c92d3edd8d4a1ce1705274bbfdb8db2eec686fe76a5f7215564b4", func := "example.com/ebbwatch/ebbwatch/pkg/record.LawS6164CWhole", spec := "lawS6164CWhole", inPlace := ["math.Float64bits"], named := ["example.com/ebbwatch/ebbwatch/pkg/record.pow10"], apart := false, laid := [("example.com/ebbwatch/ebbwatch/pkg/record.pow10", laid_example_com_ebbwatch_ebbwatch_pkg_record_pow10)] }
def LawS6164CWholeSaid : Prop := lawS6164CWholeRow.holds Ybad.pinned (OpenSpec.ofChange lawS6164CWholeSpec)

/-- ITS FALSE NEIGHBOUR: 'it returns false'. Refute it at one input. -/
def lawS6164CWholeWrong : ChangeSpec := { name := "lawS6164CWhole", vars := ["example.com/ebbwatch/ebbwatch/pkg/record.pow10"], fn := fun _ => fun
  | [d1, d2, g1] => { results := [.lit (.bool false)], args := [d1, d2], vars := [g1] }
  | _ => none }
def LawS6164CWholeWrongFalsely : Prop := lawS6164CWholeRow.holds Ybad.pinned (OpenSpec.ofChange lawS6164CWholeWrong)

end Rows
end Go.Proofs.YbulkdwqcDoor
