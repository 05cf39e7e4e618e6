import Derived.Test.YbulkbcxyGrow
namespace Go.Proofs.Ybulkbcxy
open Go.RowKit

/-- A ring of 2^m places behind the pool p: its head at 0, k jobs in it, the first one's 'run' being f (where there is one). -/
structure Ring (W : World) (p m g k : Nat) (cur : Array Value) (st cap qs : Int) (f : Value) : Prop where
  pool : W.heap[p]? = some (.cells (poolArr st (.slice (some ⟨g, 0, none⟩) (2 ^ m) (2 ^ m)) 0 k cap qs) 57)
  ring : W.heap[g]? = some (.cells cur 60)
  size : cur.size = 2 ^ m * 2
  one : ∀ v ∈ cur.toList, v.oneCell' = true
  first : 0 < k → cur[0]? = some f
  lo : 2 ≤ m
  hi : m ≤ 11
  fits : k ≤ 2 ^ m

theorem blk_setCell_ne {W : World} {b : Nat} {o : Obj} {a : Addr} {v : Value} (h : W.heap[b]? = some o) (hne : b ≠ a.block) : (W.setCell a v).heap[b]? = some o := by
  rw [Below.heap_setCell _ _ _ _ hne]
  exact h
theorem blk_setCell_at {W : World} {b : Nat} {c : Array Value} {t : TypeId} {z : Nat × Nat} {off : Nat} {v : Value} (h : W.heap[b]? = some (.cells c t z)) : (W.setCell ⟨b, off, none⟩ v).heap[b]? = some (.cells (c.setIfInBounds off v) t z) := by
  have hlt := lt_of_block h
  have h' : W.heap[b] = .cells c t z := by simpa [Array.getElem?_eq_getElem hlt] using h
  show (W.heap.modify b _)[b]? = _
  rw [Array.getElem?_eq_getElem (by simpa using hlt), Array.getElem_modify_self, h']
  rfl
theorem blk_alloc {w : World} {M : Nat} {o : Obj} (o' : Obj) (h : w.heap[M]? = some o) : (w.alloc o').heap[M]? = some o := by
  rw [Below.heap_alloc w o' M (lt_of_block h)]
  exact h
theorem grown_setCell {W W' : World} {row : Nat} {a : Addr} {v : Value} (h : W.grownBy W' (some row)) (ha : a.block = row) : W.grownBy (W'.setCell a v) (some row) :=
  ⟨h.os, h.tape, h.output, by have := h.size; simp [World.setCell]; omega, fun k hk hne => by
    rw [Below.heap_setCell _ _ _ _ (fun e => hne (by rw [e, ha]))]
    exact h.block k hk hne⟩
theorem grown_drewN {W W' : World} {row : Option Nat} (h : W.grownBy W' row) (n : Nat) : W.grownBy (W'.drewN n) row := ⟨h.os, h.tape, h.output, h.size, h.block⟩

theorem one_append {a b : Array Value} (h1 : ∀ v ∈ a.toList, v.oneCell' = true) (h2 : ∀ v ∈ b.toList, v.oneCell' = true) : ∀ v ∈ (a ++ b).toList, v.oneCell' = true := by
  intro v hv
  rw [Array.toList_append, List.mem_append] at hv
  rcases hv with hv | hv
  · exact h1 v hv
  · exact h2 v hv
theorem one_blank (L : Nat) : ∀ v ∈ (blank L).toList, v.oneCell' = true := by
  intro v hv
  rw [blank_list] at hv
  rw [List.eq_of_mem_replicate hv]
  rfl

theorem pool_ring_set (st : Int) (r r' : Value) (hd n cap qs : Int) : (poolArr st r hd n cap qs).setIfInBounds 6 r' = poolArr st r' hd n cap qs := rfl
theorem pool_head_set (st : Int) (r : Value) (hd hd' n cap qs : Int) : (poolArr st r hd n cap qs).setIfInBounds 7 (.int .i64 hd') = poolArr st r hd' n cap qs := rfl
theorem pool_n_set (st : Int) (r : Value) (hd n n' cap qs : Int) : (poolArr st r hd n cap qs).setIfInBounds 8 (.int .i64 n') = poolArr st r hd n' cap qs := rfl
theorem pool_st_set (st st' : Int) (r : Value) (hd n cap qs : Int) : (poolArr st r hd n cap qs).setIfInBounds 5 (.int .i64 st') = poolArr st' r hd n cap qs := rfl
theorem pool_cap_set (st : Int) (r : Value) (hd n cap cap' qs : Int) : (poolArr st r hd n cap qs).setIfInBounds 9 (.int .i64 cap') = poolArr st r hd n cap' qs := rfl
theorem pool_qs_set (st : Int) (r : Value) (hd n cap qs qs' : Int) : (poolArr st r hd n cap qs).setIfInBounds 24 (.int .i64 qs') = poolArr st r hd n cap qs' := rfl

set_option maxRecDepth 100000 in
set_option maxHeartbeats 1000000 in
/-- 'grow()' of a full ring. -/
theorem grow_full (p m g : Nat) (cur : Array Value) (st cap qs : Int) (f : Value) (w : World) (h : Ring w p m g (2 ^ m) cur st cap qs f) (hm : m ≤ 10) :
    Calls Yba.prog 15 #[.pointer (some ⟨p, 6, none⟩)] w fun e w' => e = .returned (.tuple #[]) ∧ Ring w' p (m + 1) w.heap.size (2 ^ m) (cur ++ blank (2 ^ m)) st cap qs f ∧ w.grownBy w' (some p) := by
  obtain ⟨L, hL⟩ : ∃ L : Nat, L = 2 ^ m := ⟨_, rfl⟩
  have h4 : 4 ≤ L := by rw [hL]; exact Nat.pow_le_pow_right (n := 2) (by omega) h.lo
  have h5 : L ≤ 1024 := by rw [hL]; exact Nat.pow_le_pow_right (n := 2) (by omega) hm
  have hlt := lt_of_block h.pool
  have hp1 := h.pool
  rw [← hL] at hp1
  have hr := pool_ring hp1
  have hh := pool_head hp1
  have hmk := make35 w (2 * L) (2 * (L : Int)) (by simp) (by omega)
  have hc1 := copy_all w g L cur 3 h.ring (by rw [h.size, hL]) h.one
  have hc2 := copy_none
  have hf6 := pool_free hp1 6
  have hf7 := pool_free hp1 7
  have fin : Ring (((w.setCell ⟨p, 6, none⟩ (.slice (some ⟨w.heap.size, 0, none⟩) (2 * L) (2 * L))).setCell ⟨p, 7, none⟩ (.int .i64 0)).alloc (.cells (cur ++ blank L) 60)).drew.drew p (m + 1) w.heap.size (2 ^ m) (cur ++ blank (2 ^ m)) st cap qs f ∧
      w.grownBy (((w.setCell ⟨p, 6, none⟩ (.slice (some ⟨w.heap.size, 0, none⟩) (2 * L) (2 * L))).setCell ⟨p, 7, none⟩ (.int .i64 0)).alloc (.cells (cur ++ blank L) 60)).drew.drew (some p) := by
    have e2 : 2 * L = 2 ^ (m + 1) := by rw [hL, Nat.pow_succ]; omega
    have hz : ((w.setCell ⟨p, 6, none⟩ (.slice (some ⟨w.heap.size, 0, none⟩) (2 * L) (2 * L))).setCell ⟨p, 7, none⟩ (.int .i64 0)).heap.size = w.heap.size := by simp [World.setCell]
    refine ⟨⟨?_, ?_, ?_, one_append h.one (one_blank _), ?_, by have := h.lo; omega, by omega, by rw [← e2, hL]; omega⟩, ?_⟩
    · have q1 := blk_alloc (.cells (cur ++ blank L) 60) (blk_setCell_at (off := 7) (v := .int .i64 0) (blk_setCell_at (off := 6) (v := .slice (some ⟨w.heap.size, 0, none⟩) (2 * L) (2 * L)) hp1))
      rw [pool_ring_set, pool_head_set] at q1
      rw [← e2]
      rw [hL] at q1 ⊢
      exact q1
    · rw [← hL]
      have := heap_alloc_new ((w.setCell ⟨p, 6, none⟩ (.slice (some ⟨w.heap.size, 0, none⟩) (2 * L) (2 * L))).setCell ⟨p, 7, none⟩ (.int .i64 0)) (.cells (cur ++ blank L) 60)
      rw [hz] at this
      exact this
    · rw [Array.size_append, blank_size, h.size, Nat.pow_succ]; omega
    · intro h0
      have hs : 0 < cur.size := by rw [h.size, ← hL]; omega
      rw [Array.getElem?_append_left hs]
      exact h.first h0
    · have g0 : w.grownBy w (some p) := ⟨rfl, rfl, rfl, Nat.le_refl _, fun _ _ _ => rfl⟩
      have g1 : w.grownBy ((w.setCell ⟨p, 6, none⟩ (.slice (some ⟨w.heap.size, 0, none⟩) (2 * L) (2 * L))).setCell ⟨p, 7, none⟩ (.int .i64 0)) (some p) := grown_setCell (a := ⟨p, 7, none⟩) (grown_setCell (a := ⟨p, 6, none⟩) g0 rfl) rfl
      have g2 := g1.trans (World.grownBy_alloc _ (.cells (cur ++ blank L) 60) _)
      exact ⟨g2.os, g2.tape, g2.output, g2.size, g2.block⟩
  have FIN : Hid _ := fin
  clear fin hp1 h hL hm
  go_enter Yba.func15, Yba.ntmps15
  go_wp2
  go_region
  all_goals go_wp2
  go_region
  all_goals go_wp2
  go_end0
  exact ⟨rfl, FIN.out⟩

set_option maxRecDepth 100000 in
set_option maxHeartbeats 1000000 in
/-- 'grow()' of a queue that has no ring yet. -/
theorem grow_first (p : Nat) (st cap qs : Int) (f : Value) (w : World) (hp1 : w.heap[p]? = some (.cells (poolArr st (.slice none 0 0) 0 0 cap qs) 57)) :
    Calls Yba.prog 15 #[.pointer (some ⟨p, 6, none⟩)] w fun e w' => e = .returned (.tuple #[]) ∧ Ring w' p 2 w.heap.size 0 (blank 4) st cap qs f ∧ w.grownBy w' (some p) := by
  have hlt := lt_of_block hp1
  have hr := pool_ring hp1
  have hh := pool_head hp1
  have hmk := make35 w 4 4 (by simp) (by omega)
  have hc2 := copy_none
  have hf6 := pool_free hp1 6
  have hf7 := pool_free hp1 7
  have fin : Ring (((w.setCell ⟨p, 6, none⟩ (.slice (some ⟨w.heap.size, 0, none⟩) 4 4)).setCell ⟨p, 7, none⟩ (.int .i64 0)).alloc (.cells (blank 4) 60)).drew.drew p 2 w.heap.size 0 (blank 4) st cap qs f ∧
      w.grownBy (((w.setCell ⟨p, 6, none⟩ (.slice (some ⟨w.heap.size, 0, none⟩) 4 4)).setCell ⟨p, 7, none⟩ (.int .i64 0)).alloc (.cells (blank 4) 60)).drew.drew (some p) := by
    have hz : ((w.setCell ⟨p, 6, none⟩ (.slice (some ⟨w.heap.size, 0, none⟩) 4 4)).setCell ⟨p, 7, none⟩ (.int .i64 0)).heap.size = w.heap.size := by simp [World.setCell]
    refine ⟨⟨?_, ?_, blank_size 4, one_blank _, fun h => by omega, by omega, by omega, by omega⟩, ?_⟩
    · have q1 := blk_alloc (.cells (blank 4) 60) (blk_setCell_at (off := 7) (v := .int .i64 0) (blk_setCell_at (off := 6) (v := .slice (some ⟨w.heap.size, 0, none⟩) 4 4) hp1))
      rw [pool_ring_set, pool_head_set] at q1
      exact q1
    · have := heap_alloc_new ((w.setCell ⟨p, 6, none⟩ (.slice (some ⟨w.heap.size, 0, none⟩) 4 4)).setCell ⟨p, 7, none⟩ (.int .i64 0)) (.cells (blank 4) 60)
      rw [hz] at this
      exact this
    · have g0 : w.grownBy w (some p) := ⟨rfl, rfl, rfl, Nat.le_refl _, fun _ _ _ => rfl⟩
      have g1 : w.grownBy ((w.setCell ⟨p, 6, none⟩ (.slice (some ⟨w.heap.size, 0, none⟩) 4 4)).setCell ⟨p, 7, none⟩ (.int .i64 0)) (some p) := grown_setCell (a := ⟨p, 7, none⟩) (grown_setCell (a := ⟨p, 6, none⟩) g0 rfl) rfl
      have g2 := g1.trans (World.grownBy_alloc _ (.cells (blank 4) 60) _)
      exact ⟨g2.os, g2.tape, g2.output, g2.size, g2.block⟩
  have FIN : Hid _ := fin
  clear fin hp1
  go_enter Yba.func15, Yba.ntmps15
  go_wp2
  go_region
  all_goals go_wp2
  go_region
  all_goals go_wp2
  go_end0
  exact ⟨rfl, FIN.out⟩

end Go.Proofs.Ybulkbcxy
