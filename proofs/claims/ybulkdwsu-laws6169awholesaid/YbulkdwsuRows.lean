/-
  No cell of these rows narrows 'for every input' (looked for: loops, veiled, ifaces, maps, wideKeys, modest, calm, conditions, laid).
  DERIVED. THE GIVEN ROWS OF THIS SEAT. 1 by the template 'for every input the law returns true; each argument reads behind the call as it read before'; 0 by the template 'total and deterministic' (their statements: YbulkdwsuTotals.lean).
  GIVEN WITH THE SEED: the statements are not yours to turn. If you find one false, say at which input.
  Laid BY PROGRAM, IN A SANDBOX (cutbox-rows.mjs): the forced cells as the released guide's own fill.sh prints them over the translation b7a6c21e776fd4ea… (all of the seat's roots in one cut). By AI agents, Wed Nov 11 2026. No macro, syntax, notation, axiom, sorry.
-/
import Derived.Test.YbulkdwsuChecked
import GoSem.Claim
import GoSem.ClaimJoined
import GoSem.ClaimMapViews
import Derived.JoinedTies
import Derived.KernelRfl
namespace Go.Proofs.Ybulkdwsu
/- THE CELL 'sum', in the pinned program and in every row, IS THE sha256 OF THE DUMP (.gsa) THAT YbulkdwsuProg.lean LOADS. Nothing in Lean hashes anything: it is a label: what it is worth is what the hold of that sum in a sandbox is worth. -/
noncomputable def Yba.pinned : Pinned := { name := "ybulkdwsu", sum := "b7a6c21e776fd4ea613c3d8a6f4c862ee7126b88e9481da66a6c1b939580b9f8", checked := Yba.checked }
namespace Rows
def none {H : Type} : Left H := { results := [], args := [] }

/-- 'codepage.LawS6169AWhole': WHATEVER THE INPUT: true; the input reads as it did. -/
def lawS6169AWholeSpec : ChangeSpec := { name := "lawS6169AWhole", fn := fun _ => fun
  | [d1, d2, d3, d4, d5, d6, d7] => { results := [.lit (.bool true)], args := [d1, d2, d3, d4, d5, d6, d7] }
  | _ => none }
def lawS6169AWholeRow : OpenClaim := { program := "ybulkdwsu", sum := "b7a6c21e776fd4ea613c3d8a6f4c862ee7126b88e9481da66a6c1b939580b9f8", func := "example.com/confero/confero/internal/codepage.LawS6169AWhole", spec := "lawS6169AWhole", apart := false }
def LawS6169AWholeSaid : Prop := lawS6169AWholeRow.holds Yba.pinned (OpenSpec.ofChange lawS6169AWholeSpec)

/-- ITS FALSE NEIGHBOUR: 'it returns false'. Refute it at one input. -/
def lawS6169AWholeWrong : ChangeSpec := { name := "lawS6169AWhole", fn := fun _ => fun
  | [d1, d2, d3, d4, d5, d6, d7] => { results := [.lit (.bool false)], args := [d1, d2, d3, d4, d5, d6, d7] }
  | _ => none }
def LawS6169AWholeWrongFalsely : Prop := lawS6169AWholeRow.holds Yba.pinned (OpenSpec.ofChange lawS6169AWholeWrong)

end Rows
end Go.Proofs.Ybulkdwsu
