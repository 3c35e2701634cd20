/-
  No cell of these rows narrows 'for every input' (looked for: loops, veiled, ifaces, maps, wideKeys, modest, calm, conditions, laid).
  DERIVED. THE GIVEN ROWS OF THIS SEAT. 1 by the template 'for every input the law returns true; each argument reads behind the call as it read before'; 0 by the template 'total and deterministic' (their statements: YbulkdpwaTotals.lean).
  GIVEN WITH THE SEED: the statements are not yours to turn. If you find one false, say at which input.
  Laid BY PROGRAM, IN A SANDBOX (cutbox-rows.mjs): the forced cells as the released guide's own fill.sh prints them over the translation 80f5476187d87cfe… (all of the seat's roots in one cut). By AI agents, Wed Nov 11 2026. No macro, syntax, notation, axiom, sorry.
-/
import Derived.Test.YbulkdpwaChecked
import GoSem.Claim
import GoSem.ClaimJoined
import GoSem.ClaimMapViews
import Derived.JoinedTies
import Derived.KernelRfl
namespace Go.Proofs.Ybulkdpwa
/- THE CELL 'sum', in the pinned program and in every row, IS THE sha256 OF THE DUMP (.gsa) THAT YbulkdpwaProg.lean LOADS. Nothing in Lean hashes anything: it is a label: what it is worth is what the hold of that sum in a sandbox is worth. -/
noncomputable def Yba.pinned : Pinned := { name := "ybulkdpwa", sum := "80f5476187d87cfe6d10a682d9dfcf5f262412708c5d4dcc5e781c9bbfdf5c80", checked := Yba.checked }
namespace Rows
def none {H : Type} : Left H := { results := [], args := [] }

/-- 'lonesome.LawS5837AWhole': WHATEVER THE INPUT: true; the input reads as it did. -/
def lawS5837AWholeSpec : ChangeSpec := { name := "lawS5837AWhole", fn := fun _ => fun
  | [d1, d2, d3, d4, d5, d6, d7] => { results := [.lit (.bool true)], args := [d1, d2, d3, d4, d5, d6, d7] }
  | _ => none }
def lawS5837AWholeRow : OpenClaim := { program := "ybulkdpwa", sum := "80f5476187d87cfe6d10a682d9dfcf5f262412708c5d4dcc5e781c9bbfdf5c80", func := "example.com/lonesome/lonesome.LawS5837AWhole", spec := "lawS5837AWhole", apart := false }
def LawS5837AWholeSaid : Prop := lawS5837AWholeRow.holds Yba.pinned (OpenSpec.ofChange lawS5837AWholeSpec)

/-- ITS FALSE NEIGHBOUR: 'it returns false'. Refute it at one input. -/
def lawS5837AWholeWrong : ChangeSpec := { name := "lawS5837AWhole", fn := fun _ => fun
  | [d1, d2, d3, d4, d5, d6, d7] => { results := [.lit (.bool false)], args := [d1, d2, d3, d4, d5, d6, d7] }
  | _ => none }
def LawS5837AWholeWrongFalsely : Prop := lawS5837AWholeRow.holds Yba.pinned (OpenSpec.ofChange lawS5837AWholeWrong)

end Rows
end Go.Proofs.Ybulkdpwa
