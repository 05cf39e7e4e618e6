import Derived.Test.YbulkbcxkPolicy
namespace Go.Proofs.Ybulkbcxk
open Go.RowKit
open Go.ChangeMaps (setBlock)

theorem run_look_hit (w : World) (M b : Nat) (l : List (ByteArray × Nat)) (k : ByteArray) (h : w.heap[M]? = some (mapObj l)) (hk : look k l = some b) :
    (Instr.lookup 75 (.map (some M)) (.string k) false).run Yba.prog w = .ok (.pointer (some ⟨b, 0, none⟩)) w := by
  rw [run_look w M l k h, hk, ptr]

theorem run_look_miss (w : World) (M : Nat) (l : List (ByteArray × Nat)) (k : ByteArray) (h : w.heap[M]? = some (mapObj l)) (hk : look k l = none) :
    (Instr.lookup 75 (.map (some M)) (.string k) false).run Yba.prog w = .ok (.pointer none) w := by
  rw [run_look w M l k h, hk, ptr]

theorem heap_alloc_lt {w : World} {M : Nat} {o : Obj} (o' : Obj) (h : w.heap[M]? = some o) : (w.alloc o').heap[M]? = some o := by
  rw [Below.heap_alloc w o' M (Array.getElem?_eq_some_iff.1 h).1]
  exact h

/-- A check that the transaction has just begun on: forget is not set, no key, no range. -/
def freshChange : Obj := .cells #[.bool false, .slice none 0 0, .slice none 0 0] 70

set_option maxRecDepth 100000 in
set_option maxHeartbeats 400000 in
theorem checking_found (T g n cap M j b : Nat) (k : ByteArray) (l : List (ByteArray × Nat)) (w : World) (hT : w.cell? ⟨T, 17, none⟩ = some (.slice (some ⟨g, 0, none⟩) n cap)) (hj : j < n) (hn : n ≤ 1000)
    (hpre : ∀ i, i < j → ∃ x, w.cell? ⟨g, i, none⟩ = some (.iface 57 x)) (hm : w.cell? ⟨g, j, none⟩ = some (.iface 75 (.map (some M)))) (hM : w.heap[M]? = some (mapObj l)) (hk : look k l = some b) :
    Calls Yba.prog 5 #[.pointer (some ⟨T, 0, none⟩), .string k] w fun e w' => e = .returned (.pointer (some ⟨b, 0, none⟩)) ∧ w' = w := by
  have hl := run_look_hit w M b l k hM hk
  clear hk
  go_enter Yba.func5, Yba.ntmps5
  go_wp2_with (first | (go_at_call 9; refine (policy_found T g n cap M j _ hT hj hn hpre hm).mono ?_; rintro e w' ⟨rfl, rfl⟩) | go_in)
  go_ret
  exact ⟨rfl, rfl⟩

set_option maxRecDepth 100000 in
set_option maxHeartbeats 400000 in
theorem checking_new (T g n cap M j : Nat) (k : ByteArray) (l : List (ByteArray × Nat)) (w : World) (hT : w.cell? ⟨T, 17, none⟩ = some (.slice (some ⟨g, 0, none⟩) n cap)) (hj : j < n) (hn : n ≤ 1000)
    (hpre : ∀ i, i < j → ∃ x, w.cell? ⟨g, i, none⟩ = some (.iface 57 x)) (hm : w.cell? ⟨g, j, none⟩ = some (.iface 75 (.map (some M)))) (hM : w.heap[M]? = some (mapObj l)) (hk : look k l = none) :
    Calls Yba.prog 5 #[.pointer (some ⟨T, 0, none⟩), .string k] w fun e w' => e = .returned (.pointer (some ⟨w.heap.size, 0, none⟩)) ∧ w' = setBlock (w.alloc freshChange) M (mapObj (l ++ [(k, w.heap.size)])) := by
  have hl := run_look_miss w M l k hM hk
  have hp := run_put (w.alloc (.cells #[.bool false, .slice none 0 0, .slice none 0 0] 70)) M l k w.heap.size (heap_alloc_lt _ hM) hk
  clear hk
  go_enter Yba.func5, Yba.ntmps5
  go_wp2_with (first | (go_at_call 9; refine (policy_found T g n cap M j _ hT hj hn hpre hm).mono ?_; rintro e w' ⟨rfl, rfl⟩) | go_in)
  go_ret
  exact ⟨rfl, rfl⟩

end Go.Proofs.Ybulkbcxk
