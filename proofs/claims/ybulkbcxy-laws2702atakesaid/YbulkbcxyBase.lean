import Derived.Test.YbulkbcxyProg
import Derived.WalkKit
import Derived.WalkSpells
import Derived.WalkLawsBesides
import Derived.Deep.QuietTactic
import Derived.BigQuiet
namespace Go.Proofs.Ybulkbcxy
open Go.RowKit

/-- The cells of a pool that is zero but for: starting, the queue's ring, head and count, the capacity, the queue's size. -/
def poolArr (st : Int) (ring : Value) (hd n cap qs : Int) : Array Value :=
  #[.int .u32 0, .bool false, .bool false, .int .u16 0, .int .i64 0, .int .i64 st, ring, .int .i64 hd, .int .i64 n, .int .i64 cap,
    .bool false, .pointer none, .pointer none, .int .i64 0, .int .i64 0, .pointer none, .pointer none, .int .i64 0, .pointer none, .bool false,
    .chan none, .chan none, .int .i64 0, .bool false, .int .i64 qs, .nilFunc, .pointer none, .int .i64 0,
    .int .u8 0, .int .u8 0, .int .u8 0, .int .u8 0, .int .u8 0, .int .u8 0, .int .u8 0, .int .u8 0, .int .u8 0, .int .u8 0, .int .u8 0, .int .u8 0, .int .u8 0, .int .u8 0, .int .u8 0, .int .u8 0, .int .u8 0, .int .u8 0, .int .u8 0, .int .u8 0, .int .u8 0, .int .u8 0, .int .u8 0, .int .u8 0, .int .u8 0, .int .u8 0, .int .u8 0, .int .u8 0, .int .u8 0, .int .u8 0, .int .u8 0, .int .u8 0, .int .u8 0, .int .u8 0, .int .u8 0, .int .u8 0, .int .u8 0, .int .u8 0, .int .u8 0, .int .u8 0]

theorem zero57 (W : World) : (zeroValue 57).run Yba.prog W = .ok (.agg (poolArr 0 (.slice none 0 0) 0 0 0 0)) W := by kernel_rfl

section
variable {W : World} {p : Nat} {st : Int} {ring : Value} {hd n cap qs : Int}

theorem pool_st (h : W.heap[p]? = some (.cells (poolArr st ring hd n cap qs) 57)) : W.cell? ⟨p, 5, none⟩ = some (.int .i64 st) := by simp only [World.cell?, h]; rfl
theorem pool_ring (h : W.heap[p]? = some (.cells (poolArr st ring hd n cap qs) 57)) : W.cell? ⟨p, 6, none⟩ = some ring := by simp only [World.cell?, h]; rfl
theorem pool_head (h : W.heap[p]? = some (.cells (poolArr st ring hd n cap qs) 57)) : W.cell? ⟨p, 7, none⟩ = some (.int .i64 hd) := by simp only [World.cell?, h]; rfl
theorem pool_n (h : W.heap[p]? = some (.cells (poolArr st ring hd n cap qs) 57)) : W.cell? ⟨p, 8, none⟩ = some (.int .i64 n) := by simp only [World.cell?, h]; rfl
theorem pool_cap (h : W.heap[p]? = some (.cells (poolArr st ring hd n cap qs) 57)) : W.cell? ⟨p, 9, none⟩ = some (.int .i64 cap) := by simp only [World.cell?, h]; rfl
theorem pool_wn (h : W.heap[p]? = some (.cells (poolArr st ring hd n cap qs) 57)) : W.cell? ⟨p, 13, none⟩ = some (.int .i64 0) := by simp only [World.cell?, h]; rfl
theorem pool_qs (h : W.heap[p]? = some (.cells (poolArr st ring hd n cap qs) 57)) : W.cell? ⟨p, 24, none⟩ = some (.int .i64 qs) := by simp only [World.cell?, h]; rfl
theorem pool_free (h : W.heap[p]? = some (.cells (poolArr st ring hd n cap qs) 57)) (o : Nat) : W.frozen? ⟨p, o, none⟩ = false := by simp [World.frozen?, h]
end

theorem len_any (p : Nat) (n : Int) (w : World) (h : w.cell? ⟨p, 8, none⟩ = some (.int .i64 n)) :
    Calls Yba.prog 7 #[.pointer (some ⟨p, 6, none⟩)] w fun e w' => e = .returned (.int .i64 n) ∧ w' = w := by
  go_enter Yba.func7, Yba.ntmps7
  go_wp2
  go_ret
  exact ⟨rfl, rfl⟩

theorem wlen_any (p : Nat) (n : Int) (w : World) (h : w.cell? ⟨p, 13, none⟩ = some (.int .i64 n)) :
    Calls Yba.prog 8 #[.pointer (some ⟨p, 11, none⟩)] w fun e w' => e = .returned (.int .i64 n) ∧ w' = w := by
  go_enter Yba.func8, Yba.ntmps8
  go_wp2
  go_ret
  exact ⟨rfl, rfl⟩

theorem and_mask (m : Nat) (i : Int) (hm : m ≤ 20) (h0 : 0 ≤ i) (h1 : i < 2 ^ m) : bits BinOp.and IntKind.i64 i (2 ^ m - 1) = i := by
  have h2 : (2 : Int) ^ m ≤ 2 ^ 20 := by
    have := Nat.pow_le_pow_right (n := 2) (by omega) hm
    exact_mod_cast this
  rw [bits_mask .i64 63 (by decide) (fun n hn hn' => by rw [IntKind.wrap_i64]; omega) m (by omega) i h0 (by omega)]
  exact Int.emod_eq_of_lt h0 h1

/-- 'at(i)' where the ring has 2^m places and its head is at 0. -/
theorem at_any (p m : Nat) (i : Int) (ao : Option Addr) (c : Nat) (w : World) (hm : m ≤ 20) (h0 : 0 ≤ i) (h1 : i < 2 ^ m) (hr : w.cell? ⟨p, 6, none⟩ = some (.slice ao (2 ^ m) c)) (hh : w.cell? ⟨p, 7, none⟩ = some (.int .i64 0)) :
    Calls Yba.prog 16 #[.pointer (some ⟨p, 6, none⟩), .int .i64 i] w fun e w' => e = .returned (.int .i64 i) ∧ ∃ k, w' = w.drewN k := by
  have h2 : (2 : Int) ^ m ≤ 2 ^ 20 := by
    have := Nat.pow_le_pow_right (n := 2) (by omega) hm
    exact_mod_cast this
  have hb := and_mask m i hm h0 h1
  obtain ⟨L, hL⟩ : ∃ L : Nat, L = 2 ^ m := ⟨_, rfl⟩
  have hLi : (L : Int) = 2 ^ m := by rw [hL]; simp
  rw [← hL] at hr
  rw [← hLi] at hb h1 h2
  have hi : i ≤ 1048576 := by omega
  have hl1 : (L : Int) ≤ 1048576 := by omega
  have hl0 : (0 : Int) ≤ (L : Int) := by omega
  have HB : Hid _ := hb
  clear hb hL hLi hm h1 h2
  go_enter Yba.func16, Yba.ntmps16
  go_wp2
  go_quiet (fail)
  go_wp2
  go_ret
  refine ⟨?_, nq, rfl⟩
  have := HB.out
  simp [this]

/-- 'queued()': how many tasks wait. -/
theorem queued_any (p : Nat) (n st : Int) (w : World) (hn : w.cell? ⟨p, 8, none⟩ = some (.int .i64 n)) (hs : w.cell? ⟨p, 5, none⟩ = some (.int .i64 st)) (h0 : 0 ≤ n) (h1 : n ≤ 100000) (h2 : 0 ≤ st) (h3 : st ≤ 100000) :
    Calls Yba.prog 13 #[.pointer (some ⟨p, 0, none⟩)] w fun e w' => e = .returned (.int .i64 (n - st)) ∧ ∃ k, w' = w.drewN k := by
  go_enter Yba.func13, Yba.ntmps13
  go_wp2
  go_quiet ((go_at_call 7; exact Calls.quiet_of_same (len_any _ n _ hn)))
  go_wp2
  go_ret
  exact ⟨by simp, nq, rfl⟩

/-- 'admit()' where nobody waits for room: nothing turns. -/
theorem admit_any (p : Nat) (n st qs : Int) (w : World) (hn : w.cell? ⟨p, 8, none⟩ = some (.int .i64 n)) (hs : w.cell? ⟨p, 5, none⟩ = some (.int .i64 st)) (hq : w.cell? ⟨p, 24, none⟩ = some (.int .i64 qs)) (hw : w.cell? ⟨p, 13, none⟩ = some (.int .i64 0))
    (h0 : 0 ≤ n) (h1 : n ≤ 100000) (h2 : 0 ≤ st) (h3 : st ≤ 100000) :
    Calls Yba.prog 12 #[.pointer (some ⟨p, 0, none⟩)] w fun e w' => e = .returned (.tuple #[]) ∧ ∃ k, w' = w.drewN k := by
  by_cases hb : qs < n - st
  · go_enter Yba.func12, Yba.ntmps12
    go_wp2
    go_quiet ((go_at_call 13; exact Calls.quiet_of (queued_any _ n st _ hn hs h0 h1 h2 h3)))
    go_wp2
    exact bodyPost_ret (v := .tuple #[]) (by simp [results, Yba.results12, go_sem]) rfl ⟨rfl, nq, rfl⟩
  · go_enter Yba.func12, Yba.ntmps12
    go_wp2
    go_quiet ((go_at_call 13; exact Calls.quiet_of (queued_any _ n st _ hn hs h0 h1 h2 h3)))
    go_wp2
    refine wp_loop_rounds 1 ?_
    rw [rounds_succ]
    go_wp2_with (go_at_call 8; refine (wlen_any _ 0 _ (by exact hw)).mono ?_; rintro e w' ⟨rfl, rfl⟩)
    go_end0
    exact ⟨rfl, nq, rfl⟩

/-- 'waiting()' where nobody waits for room. -/
theorem waiting_any (p : Nat) (n st qs : Int) (w : World) (hn : w.cell? ⟨p, 8, none⟩ = some (.int .i64 n)) (hs : w.cell? ⟨p, 5, none⟩ = some (.int .i64 st)) (hq : w.cell? ⟨p, 24, none⟩ = some (.int .i64 qs)) (hw : w.cell? ⟨p, 13, none⟩ = some (.int .i64 0))
    (h0 : 0 ≤ n) (h1 : n ≤ 100000) (h2 : 0 ≤ st) (h3 : st ≤ 100000) :
    Calls Yba.prog 6 #[.pointer (some ⟨p, 0, none⟩)] w fun e w' => e = .returned (.bool (decide (st < n))) ∧ ∃ k, w' = w.drewN k := by
  go_enter Yba.func6, Yba.ntmps6
  go_wp2_with fail
  refine (admit_any p n st qs _ hn hs hq hw h0 h1 h2 h3).mono ?_
  rintro e w' ⟨rfl, k1, rfl⟩
  go_wp2_with fail
  refine (queued_any p n st _ (by simpa using hn) (by simpa using hs) h0 h1 h2 h3).mono ?_
  rintro e w' ⟨rfl, k2, rfl⟩
  go_wp2
  go_ret
  exact ⟨rfl, k1 + k2, rfl⟩

end Go.Proofs.Ybulkbcxy
