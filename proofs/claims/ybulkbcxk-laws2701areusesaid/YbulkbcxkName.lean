import Derived.Test.YbulkbcxkProg
import Derived.WalkKit
import Derived.WalkSpells
import Derived.WalkLawsBesides
namespace Go.Proofs.Ybulkbcxk
open Go.RowKit

/-- The five names, by the number's rest. -/
def nm (k : Int) : ByteArray :=
  if k = 0 then ⟨#[]⟩ else if k = 1 then ⟨#[97]⟩ else if k = 2 then ⟨#[98]⟩ else if k = 3 then ⟨#[97, 98]⟩ else ⟨#[99]⟩

set_option maxHeartbeats 400000 in
theorem name_any (n : Int) (h0 : 0 ≤ n) (h1 : n ≤ 255) (w : World) :
    Calls Yba.prog 6 #[.int .u8 n] w fun e w' => e = .returned (.string (nm (n % 5))) ∧ w' = w := by
  go_enter Yba.func6, Yba.ntmps6
  go_wp2
  all_goals (go_ret; refine ⟨?_, rfl⟩; simp_all [nm])

end Go.Proofs.Ybulkbcxk
