/-
  No cell of these rows narrows 'for every input' (looked for: loops, veiled, ifaces, maps, wideKeys, modest, calm, conditions, laid).
  DERIVED. THE GIVEN ROWS OF THIS SEAT. 2 by the template 'for every input the law returns true; each argument reads behind the call as it read before'; 0 by the template 'total and deterministic' (their statements: YbulkbcxyTotals.lean).
  GIVEN WITH THE SEED: the statements are not yours to turn. If you find one false, say at which input.
  Laid BY PROGRAM, IN A SANDBOX (cutbox-rows.mjs): the forced cells as the released guide's own fill.sh prints them over the translation 385b3ccb422e8fbd… (all of the seat's roots in one cut). By AI agents, Wed Nov 11 2026. No macro, syntax, notation, axiom, sorry.
-/
import Derived.Test.YbulkbcxyChecked
import GoSem.Claim
import GoSem.ClaimJoined
import GoSem.ClaimMapViews
import Derived.JoinedTies
import Derived.KernelRfl
namespace Go.Proofs.Ybulkbcxy
/- THE CELL 'sum', in the pinned program and in every row, IS THE sha256 OF THE DUMP (.gsa) THAT YbulkbcxyProg.lean LOADS. Nothing in Lean hashes anything: it is a label: what it is worth is what the hold of that sum in a sandbox is worth. -/
noncomputable def Yba.pinned : Pinned := { name := "ybulkbcxy", sum := "385b3ccb422e8fbdd4535e5766509745972881eb5f5177c856650cc31a013551", checked := Yba.checked }
namespace Rows
def none {H : Type} : Left H := { results := [], args := [] }

/-- 'bounded-runner.LawS2702AExact': WHATEVER THE INPUT: true; the input reads as it did. -/
def lawS2702AExactSpec : ChangeSpec := { name := "lawS2702AExact", fn := fun _ => fun
  | [d1, d2, d3] => { results := [.lit (.bool true)], args := [d1, d2, d3] }
  | _ => none }
def lawS2702AExactRow : OpenClaim := { program := "ybulkbcxy", sum := "385b3ccb422e8fbdd4535e5766509745972881eb5f5177c856650cc31a013551", func := "example.com/bounded-runner/bounded-runner.LawS2702AExact", spec := "lawS2702AExact", unfollowed := true, recurses := true, apart := false }
def LawS2702AExactSaid : Prop := lawS2702AExactRow.holds Yba.pinned (OpenSpec.ofChange lawS2702AExactSpec)

/-- ITS FALSE NEIGHBOUR: 'it returns false'. Refute it at one input. -/
def lawS2702AExactWrong : ChangeSpec := { name := "lawS2702AExact", fn := fun _ => fun
  | [d1, d2, d3] => { results := [.lit (.bool false)], args := [d1, d2, d3] }
  | _ => none }
def LawS2702AExactWrongFalsely : Prop := lawS2702AExactRow.holds Yba.pinned (OpenSpec.ofChange lawS2702AExactWrong)

/-- 'bounded-runner.LawS2702ATake': WHATEVER THE INPUT: true; the input reads as it did. -/
def lawS2702ATakeSpec : ChangeSpec := { name := "lawS2702ATake", fn := fun _ => fun
  | [d1, d2, d3] => { results := [.lit (.bool true)], args := [d1, d2, d3] }
  | _ => none }
def lawS2702ATakeRow : OpenClaim := { program := "ybulkbcxy", sum := "385b3ccb422e8fbdd4535e5766509745972881eb5f5177c856650cc31a013551", func := "example.com/bounded-runner/bounded-runner.LawS2702ATake", spec := "lawS2702ATake", unfollowed := true, recurses := true, apart := false }
def LawS2702ATakeSaid : Prop := lawS2702ATakeRow.holds Yba.pinned (OpenSpec.ofChange lawS2702ATakeSpec)

/-- ITS FALSE NEIGHBOUR: 'it returns false'. Refute it at one input. -/
def lawS2702ATakeWrong : ChangeSpec := { name := "lawS2702ATake", fn := fun _ => fun
  | [d1, d2, d3] => { results := [.lit (.bool false)], args := [d1, d2, d3] }
  | _ => none }
def LawS2702ATakeWrongFalsely : Prop := lawS2702ATakeRow.holds Yba.pinned (OpenSpec.ofChange lawS2702ATakeWrong)

end Rows
end Go.Proofs.Ybulkbcxy
