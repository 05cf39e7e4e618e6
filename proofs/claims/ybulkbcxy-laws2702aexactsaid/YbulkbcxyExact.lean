import Derived.Test.YbulkbcxyBuild
namespace Go.Proofs.Ybulkbcxy
open Go.RowKit

set_option maxRecDepth 100000 in
set_option maxHeartbeats 1000000 in
theorem exact_walk (n : Nat) (s qs : Int) (w : World) (hn : n ≤ 1024) (hs0 : 0 ≤ s) (hs1 : s ≤ 65535) :
    Calls Yba.prog 3 #[.int .u16 (n : Int), .int .u16 s, .int .i64 qs] w fun e w' => e = .returned (.bool true) ∧ Below w.heap.size w w' := by
  have hd : decide ((1024 : Int) < (n : Int)) = false := by simp; omega
  have hm0 : 0 ≤ s % ((n : Int) + 1) := Int.emod_nonneg _ (by omega)
  have hm1 : s % ((n : Int) + 1) ≤ (n : Int) := by have := Int.emod_lt_of_pos s (show (0 : Int) < (n : Int) + 1 by omega); omega
  go_enter Yba.func3, Yba.ntmps3
  go_wp2_with fail
  refine (build_any n _ qs _ _ hn).mono ?_
  rintro e w2 ⟨rfl, kb, hq, hlb, hkb, hbel⟩
  obtain ⟨r, hp⟩ := hq.pool
  have c8 := pool_n hp
  have c5 := pool_st hp
  have c13 := pool_wn hp
  have c24 := pool_qs hp
  have cl : w2.cell? ⟨w.heap.size, 0, none⟩ = some (.slice none 0 0) := by
    rw [hbel.cell (show w.heap.size < (w.alloc (.cells #[.slice none 0 0] 23)).heap.size by simp)]
    go_simp
  have hz : (w.alloc (.cells #[.slice none 0 0] 23)).heap.size = w.heap.size + 1 := by simp
  rw [hz] at c8 c5 c13 c24
  have HB : Hid (Below w.heap.size w w2) := ((Below.refl _ _).alloc (Nat.le_refl _) _).trans (hbel.mono (by simp))
  clear hq hlb hkb hbel hp hz
  go_wp2_with fail
  refine (waiting_any (w.heap.size + 1 + 1) n (s % ((n : Int) + 1)) qs _ c8 c5 c24 c13 (by omega) (by omega) hm0 (by omega)).mono ?_
  rintro e w3 ⟨rfl, k3, rfl⟩
  go_wp2_with (first | (go_at_call 7; refine (len_any _ n _ (by exact c8)).mono ?_; rintro e w' ⟨rfl, rfl⟩) | (go_at_call 8; refine (wlen_any _ 0 _ (by exact c13)).mono ?_; rintro e w' ⟨rfl, rfl⟩))
  go_ret
  exact ⟨rfl, below_drewN HB.out k3⟩

set_option maxRecDepth 100000 in
theorem exact_long (n s qs : Int) (w : World) (hn : 1024 < n) (hn1 : n ≤ 65535) :
    Calls Yba.prog 3 #[.int .u16 n, .int .u16 s, .int .i64 qs] w fun e w' => e = .returned (.bool true) ∧ Below w.heap.size w w' := by
  have hn0 : 0 ≤ n := by omega
  go_enter Yba.func3, Yba.ntmps3
  go_wp2
  go_ret
  exact ⟨rfl, Below.refl _ _⟩

end Go.Proofs.Ybulkbcxy
