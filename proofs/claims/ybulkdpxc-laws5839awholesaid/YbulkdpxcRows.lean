/-
  No cell of these rows narrows 'for every input' (looked for: loops, veiled, ifaces, maps, wideKeys, modest, calm, conditions, laid).
  DERIVED. THE GIVEN ROWS OF THIS SEAT. 2 by the template 'for every input the law returns true; each argument reads behind the call as it read before'; 0 by the template 'total and deterministic' (their statements: YbulkdpxcTotals.lean).
  GIVEN WITH THE SEED: the statements are not yours to turn. If you find one false, say at which input.
  Laid BY PROGRAM, IN A SANDBOX (cutbox-rows.mjs): the forced cells as the released guide's own fill.sh prints them over the translation af9b1d5e5cd3fc59… (all of the seat's roots in one cut). By AI agents, Wed Nov 11 2026. No macro, syntax, notation, axiom, sorry.
-/
import Derived.Test.YbulkdpxcChecked
import GoSem.Claim
import GoSem.ClaimJoined
import GoSem.ClaimMapViews
import Derived.JoinedTies
import Derived.KernelRfl
namespace Go.Proofs.Ybulkdpxc
/- THE CELL 'sum', in the pinned program and in every row, IS THE sha256 OF THE DUMP (.gsa) THAT YbulkdpxcProg.lean LOADS. Nothing in Lean hashes anything: it is a label: what it is worth is what the hold of that sum in a sandbox is worth. -/
noncomputable def Yba.pinned : Pinned := { name := "ybulkdpxc", sum := "af9b1d5e5cd3fc59374c0436a12e313c5e18ebaebd55f13bdec5b35a7fd65772", checked := Yba.checked }
namespace Rows
def none {H : Type} : Left H := { results := [], args := [] }

/-- 'tallymesh.LawS5839AWhole': WHATEVER THE INPUT: true; the input reads as it did. -/
def lawS5839AWholeSpec : ChangeSpec := { name := "lawS5839AWhole", fn := fun _ => fun
  | [d1, d2, d3, d4, d5, d6] => { results := [.lit (.bool true)], args := [d1, d2, d3, d4, d5, d6] }
  | _ => none }
def lawS5839AWholeRow : OpenClaim := { program := "ybulkdpxc", sum := "af9b1d5e5cd3fc59374c0436a12e313c5e18ebaebd55f13bdec5b35a7fd65772", func := "example.com/tallymesh/tallymesh.LawS5839AWhole", spec := "lawS5839AWhole", inPlace := ["(*internal/sync.Mutex).Lock", "internal/race.Disable", "sync/atomic.CompareAndSwapInt32", "internal/race.Enable", "internal/race.Acquire", "(*internal/sync.Mutex).lockSlow", "internal/sync.runtime_canSpin", "internal/sync.runtime_doSpin", "internal/sync.throw", "internal/sync.runtime_nanotime", "internal/sync.runtime_SemacquireMutex", "sync/atomic.AddInt32", "(*internal/sync.Mutex).Unlock", "internal/race.ReleaseMerge", "(*internal/sync.Mutex).unlockSlow", "internal/sync.fatal", "internal/sync.runtime_Semrelease", "(*internal/sync.Mutex).TryLock"], apart := false }
def LawS5839AWholeSaid : Prop := lawS5839AWholeRow.holds Yba.pinned (OpenSpec.ofChange lawS5839AWholeSpec)

/-- ITS FALSE NEIGHBOUR: 'it returns false'. Refute it at one input. -/
def lawS5839AWholeWrong : ChangeSpec := { name := "lawS5839AWhole", fn := fun _ => fun
  | [d1, d2, d3, d4, d5, d6] => { results := [.lit (.bool false)], args := [d1, d2, d3, d4, d5, d6] }
  | _ => none }
def LawS5839AWholeWrongFalsely : Prop := lawS5839AWholeRow.holds Yba.pinned (OpenSpec.ofChange lawS5839AWholeWrong)

/-- 'tallymesh.LawS5839BWhole': WHATEVER THE INPUT: true; the input reads as it did. -/
def lawS5839BWholeSpec : ChangeSpec := { name := "lawS5839BWhole", fn := fun _ => fun
  | [d1, d2, d3, d4, d5, d6, d7, d8, d9, d10] => { results := [.lit (.bool true)], args := [d1, d2, d3, d4, d5, d6, d7, d8, d9, d10] }
  | _ => none }
def lawS5839BWholeRow : OpenClaim := { program := "ybulkdpxc", sum := "af9b1d5e5cd3fc59374c0436a12e313c5e18ebaebd55f13bdec5b35a7fd65772", func := "example.com/tallymesh/tallymesh.LawS5839BWhole", spec := "lawS5839BWhole", apart := false }
def LawS5839BWholeSaid : Prop := lawS5839BWholeRow.holds Yba.pinned (OpenSpec.ofChange lawS5839BWholeSpec)

/-- ITS FALSE NEIGHBOUR: 'it returns false'. Refute it at one input. -/
def lawS5839BWholeWrong : ChangeSpec := { name := "lawS5839BWhole", fn := fun _ => fun
  | [d1, d2, d3, d4, d5, d6, d7, d8, d9, d10] => { results := [.lit (.bool false)], args := [d1, d2, d3, d4, d5, d6, d7, d8, d9, d10] }
  | _ => none }
def LawS5839BWholeWrongFalsely : Prop := lawS5839BWholeRow.holds Yba.pinned (OpenSpec.ofChange lawS5839BWholeWrong)

end Rows
end Go.Proofs.Ybulkdpxc
