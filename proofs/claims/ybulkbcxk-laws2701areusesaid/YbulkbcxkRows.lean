/-
  No cell of these rows narrows 'for every input' (looked for: loops, veiled, ifaces, maps, wideKeys, modest, calm, conditions, laid).
  DERIVED. THE GIVEN ROWS OF THIS SEAT. 2 by the template 'for every input the law returns true; each argument reads behind the call as it read before'; 0 by the template 'total and deterministic' (their statements: YbulkbcxkTotals.lean).
  GIVEN WITH THE SEED: the statements are not yours to turn. If you find one false, say at which input.
  Laid BY PROGRAM, IN A SANDBOX (cutbox-rows.mjs): the forced cells as the released guide's own fill.sh prints them over the translation 102c6d153ed066cb… (all of the seat's roots in one cut). By AI agents, Wed Nov 11 2026. No macro, syntax, notation, axiom, sorry.
-/
import Derived.Test.YbulkbcxkChecked
import GoSem.Claim
import GoSem.ClaimJoined
import GoSem.ClaimMapViews
import Derived.JoinedTies
import Derived.KernelRfl
namespace Go.Proofs.Ybulkbcxk
/- THE CELL 'sum', in the pinned program and in every row, IS THE sha256 OF THE DUMP (.gsa) THAT YbulkbcxkProg.lean LOADS. Nothing in Lean hashes anything: it is a label: what it is worth is what the hold of that sum in a sandbox is worth. -/
noncomputable def Yba.pinned : Pinned := { name := "ybulkbcxk", sum := "102c6d153ed066cb686977b6c013c011b864e7c6f7561d055b8dad70b42345bf", checked := Yba.checked }
namespace Rows
def none {H : Type} : Left H := { results := [], args := [] }

/-- 'emberlock.LawS2701AReuse': WHATEVER THE INPUT: true; the input reads as it did. -/
def lawS2701AReuseSpec : ChangeSpec := { name := "lawS2701AReuse", fn := fun _ => fun
  | [d1, d2, d3] => { results := [.lit (.bool true)], args := [d1, d2, d3] }
  | _ => none }
def lawS2701AReuseRow : OpenClaim := { program := "ybulkbcxk", sum := "102c6d153ed066cb686977b6c013c011b864e7c6f7561d055b8dad70b42345bf", func := "example.com/emberlock/emberlock.LawS2701AReuse", spec := "lawS2701AReuse", unfollowed := true, recurses := true, plainKeys := false, apart := false }
def LawS2701AReuseSaid : Prop := lawS2701AReuseRow.holds Yba.pinned (OpenSpec.ofChange lawS2701AReuseSpec)

/-- ITS FALSE NEIGHBOUR: 'it returns false'. Refute it at one input. -/
def lawS2701AReuseWrong : ChangeSpec := { name := "lawS2701AReuse", fn := fun _ => fun
  | [d1, d2, d3] => { results := [.lit (.bool false)], args := [d1, d2, d3] }
  | _ => none }
def LawS2701AReuseWrongFalsely : Prop := lawS2701AReuseRow.holds Yba.pinned (OpenSpec.ofChange lawS2701AReuseWrong)

/-- 'emberlock.LawS2701APreset': WHATEVER THE INPUT: true; the input reads as it did. -/
def lawS2701APresetSpec : ChangeSpec := { name := "lawS2701APreset", fn := fun _ => fun
  | [d1, d2, d3] => { results := [.lit (.bool true)], args := [d1, d2, d3] }
  | _ => none }
def lawS2701APresetRow : OpenClaim := { program := "ybulkbcxk", sum := "102c6d153ed066cb686977b6c013c011b864e7c6f7561d055b8dad70b42345bf", func := "example.com/emberlock/emberlock.LawS2701APreset", spec := "lawS2701APreset", unfollowed := true, recurses := true, plainKeys := false, apart := false }
def LawS2701APresetSaid : Prop := lawS2701APresetRow.holds Yba.pinned (OpenSpec.ofChange lawS2701APresetSpec)

/-- ITS FALSE NEIGHBOUR: 'it returns false'. Refute it at one input. -/
def lawS2701APresetWrong : ChangeSpec := { name := "lawS2701APreset", fn := fun _ => fun
  | [d1, d2, d3] => { results := [.lit (.bool false)], args := [d1, d2, d3] }
  | _ => none }
def LawS2701APresetWrongFalsely : Prop := lawS2701APresetRow.holds Yba.pinned (OpenSpec.ofChange lawS2701APresetWrong)

end Rows
end Go.Proofs.Ybulkbcxk
