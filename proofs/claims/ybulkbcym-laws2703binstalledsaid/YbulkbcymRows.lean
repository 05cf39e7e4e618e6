/-
  No cell of these rows narrows 'for every input' (looked for: loops, veiled, ifaces, maps, wideKeys, modest, calm, conditions, laid).
  DERIVED. THE GIVEN ROWS OF THIS SEAT. 1 by the template 'for every input the law returns true; each argument reads behind the call as it read before'; 0 by the template 'total and deterministic' (their statements: YbulkbcymTotals.lean).
  GIVEN WITH THE SEED: the statements are not yours to turn. If you find one false, say at which input.
  Laid BY PROGRAM, IN A SANDBOX (cutbox-rows.mjs): the forced cells as the released guide's own fill.sh prints them over the translation 3a10d75fb0da554b… (all of the seat's roots in one cut). By AI agents, Wed Nov 11 2026. No macro, syntax, notation, axiom, sorry.
-/
import Derived.Test.YbulkbcymChecked
import GoSem.Claim
import GoSem.ClaimJoined
import GoSem.ClaimMapViews
import Derived.JoinedTies
import Derived.KernelRfl
namespace Go.Proofs.Ybulkbcym
/- THE CELL 'sum', in the pinned program and in every row, IS THE sha256 OF THE DUMP (.gsa) THAT YbulkbcymProg.lean LOADS. Nothing in Lean hashes anything: it is a label: what it is worth is what the hold of that sum in a sandbox is worth. -/
noncomputable def Yba.pinned : Pinned := { name := "ybulkbcym", sum := "3a10d75fb0da554bf53a37138ce7e15ad8457d0d1ca51cebb7980e99fa867fd8", checked := Yba.checked }
namespace Rows
def none {H : Type} : Left H := { results := [], args := [] }

/-- 'chorale.LawS2703BInstalled': WHATEVER THE INPUT: true; the input reads as it did. -/
def lawS2703BInstalledSpec : ChangeSpec := { name := "lawS2703BInstalled", fn := fun _ => fun
  | [d1, d2, d3, d4, d5] => { results := [.lit (.bool true)], args := [d1, d2, d3, d4, d5] }
  | _ => none }
def lawS2703BInstalledRow : OpenClaim := { program := "ybulkbcym", sum := "3a10d75fb0da554bf53a37138ce7e15ad8457d0d1ca51cebb7980e99fa867fd8", func := "example.com/chorale/chorale.LawS2703BInstalled", spec := "lawS2703BInstalled", plainKeys := false, apart := false }
def LawS2703BInstalledSaid : Prop := lawS2703BInstalledRow.holds Yba.pinned (OpenSpec.ofChange lawS2703BInstalledSpec)

/-- ITS FALSE NEIGHBOUR: 'it returns false'. Refute it at one input. -/
def lawS2703BInstalledWrong : ChangeSpec := { name := "lawS2703BInstalled", fn := fun _ => fun
  | [d1, d2, d3, d4, d5] => { results := [.lit (.bool false)], args := [d1, d2, d3, d4, d5] }
  | _ => none }
def LawS2703BInstalledWrongFalsely : Prop := lawS2703BInstalledRow.holds Yba.pinned (OpenSpec.ofChange lawS2703BInstalledWrong)

end Rows
end Go.Proofs.Ybulkbcym
