/-
  No cell of these rows narrows 'for every input' (looked for: loops, veiled, ifaces, maps, wideKeys, modest, calm, conditions, laid).
  DERIVED. THE GIVEN ROWS OF THIS SEAT. 2 by the template 'for every input the law returns true; each argument reads behind the call as it read before'; 0 by the template 'total and deterministic' (their statements: YbulkdpxqTotals.lean).
  GIVEN WITH THE SEED: the statements are not yours to turn. If you find one false, say at which input.
  Laid BY PROGRAM, IN A SANDBOX (cutbox-rows.mjs): the forced cells as the released guide's own fill.sh prints them over the translation 875834a96dbbee35… (all of the seat's roots in one cut). By AI agents, Wed Nov 11 2026. No macro, syntax, notation, axiom, sorry.
-/
import Derived.Test.YbulkdpxqChecked
import GoSem.Claim
import GoSem.ClaimJoined
import GoSem.ClaimMapViews
import Derived.JoinedTies
import Derived.KernelRfl
namespace Go.Proofs.Ybulkdpxq
/- THE CELL 'sum', in the pinned program and in every row, IS THE sha256 OF THE DUMP (.gsa) THAT YbulkdpxqProg.lean LOADS. Nothing in Lean hashes anything: it is a label: what it is worth is what the hold of that sum in a sandbox is worth. -/
noncomputable def Yba.pinned : Pinned := { name := "ybulkdpxq", sum := "875834a96dbbee35778a544f6a5151adb35d28fc4a30436680704d8b5891f576", checked := Yba.checked }
namespace Rows
def none {H : Type} : Left H := { results := [], args := [] }

/-- 'dns.LawS5840AWhole': WHATEVER THE INPUT: true; the input reads as it did. -/
def lawS5840AWholeSpec : ChangeSpec := { name := "lawS5840AWhole", fn := fun _ => fun
  | [d1, d2] => { results := [.lit (.bool true)], args := [d1, d2] }
  | _ => none }
def lawS5840AWholeRow : OpenClaim := { program := "ybulkdpxq", sum := "875834a96dbbee35778a544f6a5151adb35d28fc4a30436680704d8b5891f576", func := "example.com/nearmark/nearmark/internal/dns.LawS5840AWhole", spec := "lawS5840AWhole", unfollowed := true, recurses := true, plainKeys := false, apart := false }
def LawS5840AWholeSaid : Prop := lawS5840AWholeRow.holds Yba.pinned (OpenSpec.ofChange lawS5840AWholeSpec)

/-- ITS FALSE NEIGHBOUR: 'it returns false'. Refute it at one input. -/
def lawS5840AWholeWrong : ChangeSpec := { name := "lawS5840AWhole", fn := fun _ => fun
  | [d1, d2] => { results := [.lit (.bool false)], args := [d1, d2] }
  | _ => none }
def LawS5840AWholeWrongFalsely : Prop := lawS5840AWholeRow.holds Yba.pinned (OpenSpec.ofChange lawS5840AWholeWrong)

/-- 'zone.LawS5840BWhole': WHATEVER THE INPUT: true; the input reads as it did. -/
def lawS5840BWholeSpec : ChangeSpec := { name := "lawS5840BWhole", fn := fun _ => fun
  | [d1, d2, d3, d4, d5] => { results := [.lit (.bool true)], args := [d1, d2, d3, d4, d5] }
  | _ => none }
def lawS5840BWholeRow : OpenClaim := { program := "ybulkdpxq", sum := "875834a96dbbee35778a544f6a5151adb35d28fc4a30436680704d8b5891f576", func := "example.com/nearmark/nearmark/internal/zone.LawS5840BWhole", spec := "lawS5840BWhole", plainKeys := false, apart := false }
def LawS5840BWholeSaid : Prop := lawS5840BWholeRow.holds Yba.pinned (OpenSpec.ofChange lawS5840BWholeSpec)

/-- ITS FALSE NEIGHBOUR: 'it returns false'. Refute it at one input. -/
def lawS5840BWholeWrong : ChangeSpec := { name := "lawS5840BWhole", fn := fun _ => fun
  | [d1, d2, d3, d4, d5] => { results := [.lit (.bool false)], args := [d1, d2, d3, d4, d5] }
  | _ => none }
def LawS5840BWholeWrongFalsely : Prop := lawS5840BWholeRow.holds Yba.pinned (OpenSpec.ofChange lawS5840BWholeWrong)

end Rows
end Go.Proofs.Ybulkdpxq
