import Derived.Test.YbulkbcxkMap
namespace Go.Proofs.Ybulkbcxk
open Go.RowKit
open Go.ChangeMaps (setBlock)

theorem assert_no (W : World) (x : Value) : (Instr.typeAssert (.iface 57 x) 73 75 true).run Yba.prog W = .ok (.tuple #[.map none, .bool false]) W := by kernel_rfl
theorem assert_yes (W : World) (x : Value) : (Instr.typeAssert (.iface 75 x) 73 75 true).run Yba.prog W = .ok (.tuple #[x, .bool true]) W := by kernel_rfl

set_option maxHeartbeats 400000 in
theorem policy_found (T g n cap M j : Nat) (w : World) (hT : w.cell? ⟨T, 17, none⟩ = some (.slice (some ⟨g, 0, none⟩) n cap)) (hj : j < n) (hn : n ≤ 1000)
    (hpre : ∀ i, i < j → ∃ x, w.cell? ⟨g, i, none⟩ = some (.iface 57 x)) (hm : w.cell? ⟨g, j, none⟩ = some (.iface 75 (.map (some M)))) :
    Calls Yba.prog 9 #[.pointer (some ⟨T, 0, none⟩)] w fun e w' => e = .returned (.tuple #[.map (some M), .bool true]) ∧ w' = w := by
  have a1 := assert_no w
  have a2 := assert_yes w
  go_enter Yba.func9, Yba.ntmps9
  go_wp2
  go_loop [14] (fun i => ∃ k : Nat, k ≤ j ∧ i = .int .i64 k) (fun i => n - (intOf i).toNat)
  case atStart => exact ⟨0, Nat.zero_le _, rfl⟩
  case round =>
    obtain ⟨k, hk, rfl⟩ := hrel
    have hkn : k < n := by omega
    by_cases hkj : k < j
    · obtain ⟨x, hx⟩ := hpre k hkj
      clear hpre
      go_wp2
      go_round
      case rel => exact ⟨k + 1, by omega, by go_num⟩
      case measure => simp [intOf]; omega
    · have e : k = j := by omega
      subst e
      clear hpre
      go_wp2
      go_ret2
      exact ⟨rfl, rfl⟩

set_option maxHeartbeats 400000 in
theorem policy_none (T n cap : Nat) (ao : Option Addr) (w : World) (hT : w.cell? ⟨T, 17, none⟩ = some (.slice ao n cap)) (hn : n ≤ 1000)
    (hpre : ∀ i, i < n → ∃ g x, ao = some ⟨g, 0, none⟩ ∧ w.cell? ⟨g, i, none⟩ = some (.iface 57 x)) :
    Calls Yba.prog 9 #[.pointer (some ⟨T, 0, none⟩)] w fun e w' => e = .returned (.tuple #[.map none, .bool false]) ∧ w' = w := by
  have a1 := assert_no w
  go_enter Yba.func9, Yba.ntmps9
  go_wp2
  go_loop [14] (fun i => ∃ k : Nat, k ≤ n ∧ i = .int .i64 k) (fun i => n - (intOf i).toNat)
  case atStart => exact ⟨0, Nat.zero_le _, rfl⟩
  case round =>
    obtain ⟨k, hk, rfl⟩ := hrel
    by_cases hkn : k < n
    · obtain ⟨g, x, hg, hx⟩ := hpre k hkn
      clear hpre
      subst hg
      go_wp2
      go_round
      case rel => exact ⟨k + 1, by omega, by go_num⟩
      case measure => simp [intOf]; omega
    · clear hpre
      go_wp2
      go_ret2
      exact ⟨rfl, rfl⟩

end Go.Proofs.Ybulkbcxk
