import Derived.Test.YbulkbcxyBuild
namespace Go.Proofs.Ybulkbcxy
open Go.RowKit

theorem store_some (v : Value) (h1 : v.oneCell' = true) (W : World) (a : Addr) (hc : (W.cell? a).isSome = true) (hf : W.frozen? a = false) : Sem.run Yba.prog (store a v) W = .ok () (W.setCell a v) := by
  obtain ⟨u, hu⟩ := Option.isSome_iff_exists.1 hc
  exact store_run W a v u h1 hu hf

theorem at_then (p L : Nat) (i : Int) (ao : Option Addr) (c : Nat) (X : World) (F : World → Prop) (hL : Hid (∃ m, m ≤ 20 ∧ L = 2 ^ m)) (h0 : 0 ≤ i) (h1 : i < (L : Int)) (hr : X.cell? ⟨p, 6, none⟩ = some (.slice ao L c)) (hh : X.cell? ⟨p, 7, none⟩ = some (.int .i64 0)) (hF : ∀ j, F (X.drewN j)) :
    Calls Yba.prog 16 #[.pointer (some ⟨p, 6, none⟩), .int .i64 i] X fun e w' => e = .returned (.int .i64 i) ∧ F w' := by
  refine (at_pow p L i ao c X hL h0 h1 hr hh).mono ?_
  rintro e w' ⟨rfl, j, rfl⟩
  exact ⟨rfl, hF j⟩

/-- What the second half of 'pop' asks of the world. -/
structure Mid (w W : World) (p B : Nat) (arr : Array Value) (f d : Value) : Prop where
  pool : W.heap[p]? = some (.cells arr 57)
  res : W.heap[w.heap.size]? = some (.cells #[.nilFunc, .nilFunc] 60)
  val : W.heap[w.heap.size + 1]? = some (.cells #[f, d] 60)
  keep : Keep w W
  bel : Below B w W

theorem mid_of {w : World} {p g B : Nat} {arr cur : Array Value} {f d : Value} (hp : w.heap[p]? = some (.cells arr 57)) (hg : w.heap[g]? = some (.cells cur 60)) (hB : B ≤ p) (hBg : B ≤ g) :
    Mid w (((((w.setCell ⟨g, 0, none⟩ .nilFunc).setCell ⟨g, 1, none⟩ .nilFunc).alloc (.cells #[.nilFunc, .nilFunc] 60)).alloc (.cells #[f, d] 60)).alloc (.cells #[.nilFunc, .nilFunc] 60)) p B arr f d := by
  have hlt := lt_of_block hp
  have hpg : p ≠ g := fun e => by rw [e, hg] at hp; simp at hp
  have hz : ((w.setCell ⟨g, 0, none⟩ .nilFunc).setCell ⟨g, 1, none⟩ .nilFunc).heap.size = w.heap.size := by simp [World.setCell]
  have hz1 : (((w.setCell ⟨g, 0, none⟩ .nilFunc).setCell ⟨g, 1, none⟩ .nilFunc).alloc (.cells #[.nilFunc, .nilFunc] 60)).heap.size = w.heap.size + 1 := by simp [World.setCell]
  have r1 := heap_alloc_new ((w.setCell ⟨g, 0, none⟩ .nilFunc).setCell ⟨g, 1, none⟩ .nilFunc) (.cells #[.nilFunc, .nilFunc] 60)
  rw [hz] at r1
  have r2 := heap_alloc_new (((w.setCell ⟨g, 0, none⟩ .nilFunc).setCell ⟨g, 1, none⟩ .nilFunc).alloc (.cells #[.nilFunc, .nilFunc] 60)) (.cells #[f, d] 60)
  rw [hz1] at r2
  refine ⟨?_, blk_alloc _ (blk_alloc _ r1), blk_alloc _ r2, fun b c t _ h60 hb => ?_, ?_⟩
  · exact blk_alloc _ (blk_alloc _ (blk_alloc _ (blk_setCell_ne (blk_setCell_ne hp hpg) hpg)))
  · have n1 : b ≠ g := fun e => by rw [e, hg] at hb; simp at hb; exact h60 hb.2.symm
    exact blk_alloc _ (blk_alloc _ (blk_alloc _ (blk_setCell_ne (blk_setCell_ne hb n1) n1)))
  · exact (((((Below.refl B w).setCell hBg _).setCell hBg _).alloc (by simp [World.setCell]; omega) _).alloc (by simp [World.setCell]; omega) _).alloc (by simp [World.setCell]; omega) _

theorem mid_end {w W : World} {p B : Nat} {st cap qs k : Int} {r f d : Value} (h : Mid w W p B (poolArr st r 0 k cap qs) f d) (hB : B ≤ p) (hlt : p < w.heap.size) :
    ((((W.setCell ⟨p, 7, none⟩ (.int .i64 1)).setCell ⟨p, 8, none⟩ (.int .i64 (k - 1))).setCell ⟨w.heap.size, 0, none⟩ f).setCell ⟨w.heap.size, 1, none⟩ d).heap[p]? = some (.cells (poolArr st r 1 (k - 1) cap qs) 57) ∧
    Keep w ((((W.setCell ⟨p, 7, none⟩ (.int .i64 1)).setCell ⟨p, 8, none⟩ (.int .i64 (k - 1))).setCell ⟨w.heap.size, 0, none⟩ f).setCell ⟨w.heap.size, 1, none⟩ d) ∧
    Below B w ((((W.setCell ⟨p, 7, none⟩ (.int .i64 1)).setCell ⟨p, 8, none⟩ (.int .i64 (k - 1))).setCell ⟨w.heap.size, 0, none⟩ f).setCell ⟨w.heap.size, 1, none⟩ d) := by
  have hne : p ≠ w.heap.size := by omega
  refine ⟨?_, fun b c t h57 h60 hb => ?_, ?_⟩
  · have q1 := blk_setCell_at (off := 8) (v := .int .i64 (k - 1)) (blk_setCell_at (off := 7) (v := .int .i64 1) h.pool)
    rw [pool_head_set, pool_n_set] at q1
    exact blk_setCell_ne (blk_setCell_ne q1 hne) hne
  · have hb' := h.keep b c t h57 h60 hb
    have n1 : b ≠ p := fun e => by rw [e, h.pool] at hb'; simp at hb'; exact h57 hb'.2.symm
    have n2 : b ≠ w.heap.size := by have := lt_of_block hb; omega
    exact blk_setCell_ne (blk_setCell_ne (blk_setCell_ne (blk_setCell_ne hb' n1) n1) n2) n2
  · exact (((h.bel.setCell hB _).setCell hB _).setCell (show B ≤ w.heap.size by omega) _).setCell (show B ≤ w.heap.size by omega) _

set_option maxRecDepth 100000 in
set_option maxHeartbeats 1000000 in
theorem pop_any (p m g k B : Nat) (cur : Array Value) (st cap qs : Int) (f : Value) (w : World) (h : Ring w p m g k cur st cap qs f) (hk : 0 < k) (hk2 : k ≤ 2048) (hB : B ≤ p) (hBg : B ≤ g) :
    Calls Yba.prog 14 #[.pointer (some ⟨p, 6, none⟩)] w fun e w' => ∃ d r, e = .returned (.agg #[f, d]) ∧ w'.heap[p]? = some (.cells (poolArr st r 1 ((k : Int) - 1) cap qs) 57) ∧ Keep w w' ∧ Below B w w' := by
  obtain ⟨L, hL⟩ : ∃ L : Nat, L = 2 ^ m := ⟨_, rfl⟩
  have HL : Hid (∃ m, m ≤ 20 ∧ L = 2 ^ m) := ⟨m, by have := h.hi; omega, hL⟩
  have hp1 := h.pool
  rw [← hL] at hp1
  have hr := pool_ring hp1
  have hh := pool_head hp1
  have hn := pool_n hp1
  have hlt := lt_of_block hp1
  have hltg := lt_of_block h.ring
  have hL4 : 4 ≤ L := by rw [hL]; exact Nat.pow_le_pow_right (n := 2) (by omega) h.lo
  have hL5 : L ≤ 2048 := by rw [hL]; exact Nat.pow_le_pow_right (n := 2) (by omega) h.hi
  have hg0 : w.cell? ⟨g, 0, none⟩ = some f := by
    simp only [World.cell?, h.ring]
    exact h.first hk
  obtain ⟨d, hd⟩ : ∃ d, cur[1]? = some d := ⟨_, Array.getElem?_eq_getElem (by rw [h.size, ← hL]; omega)⟩
  have hg1 : w.cell? ⟨g, 1, none⟩ = some d := by
    simp only [World.cell?, h.ring]
    exact hd
  have of : f.oneCell' = true := h.one f (by have := h.first hk; rw [← Array.getElem?_toList] at this; exact List.mem_of_getElem? this)
  have od : d.oneCell' = true := h.one d (by rw [← Array.getElem?_toList] at hd; exact List.mem_of_getElem? hd)
  have stf := store_some f of
  have std := store_some d od
  have stn := store_some .nilFunc rfl
  have hfp := pool_free hp1
  have hfg : ∀ o, w.frozen? ⟨g, o, none⟩ = false := fun o => by simp [World.frozen?, h.ring]
  have hpg : ¬ p = g := by
    intro e
    have := h.pool
    rw [e, h.ring] at this
    simp at this
  have hgp : ¬ g = p := fun e => hpg e.symm
  have hlt1 : p < w.heap.size + 1 := by omega
  have hlt2 : p < w.heap.size + 1 + 1 := by omega
  have hltg1 : g < w.heap.size + 1 := by omega
  have hltg2 : g < w.heap.size + 1 + 1 := by omega
  have HM : Hid _ := mid_of (f := f) (d := d) hp1 h.ring hB hBg
  clear h hp1 hL
  go_enter Yba.func14, Yba.ntmps14
  go_wp2
  go_region
  all_goals go_wp2
  go_region
  all_goals go_wp2_with fail
  refine (at_then p L 1 (some ⟨g, 0, none⟩) L _ (fun W => Mid w W p B (poolArr st (.slice (some ⟨g, 0, none⟩) L L) 0 k cap qs) f d) HL (by omega) (by omega) (by go_simp) (by go_simp) ?hF).mono ?_
  case hF =>
    intro j
    exact ⟨HM.out.pool, HM.out.res, HM.out.val, HM.out.keep, HM.out.bel.trans ⟨rfl, rfl, rfl, Nat.le_refl _, fun _ _ => rfl⟩⟩
  rintro e W ⟨rfl, hm⟩
  clear HM hr hh hn hg0 hg1 hfp hfg
  have hne1 : ¬ p = w.heap.size := by omega
  have hne2 : ¬ w.heap.size = p := by omega
  have hne3 : ¬ p = w.heap.size + 1 := by omega
  have hne4 : ¬ w.heap.size + 1 = p := by omega
  have c7 := pool_head hm.pool
  have c8 := pool_n hm.pool
  have f7 := pool_free hm.pool 7
  have f8 := pool_free hm.pool 8
  have v0 : W.cell? ⟨w.heap.size + 1, 0, none⟩ = some f := by simp [World.cell?, hm.val]
  have v1 : W.cell? ⟨w.heap.size + 1, 1, none⟩ = some d := by simp [World.cell?, hm.val]
  have r0 : W.cell? ⟨w.heap.size, 0, none⟩ = some .nilFunc := by simp [World.cell?, hm.res]
  have r1 : W.cell? ⟨w.heap.size, 1, none⟩ = some .nilFunc := by simp [World.cell?, hm.res]
  have g0 : W.frozen? ⟨w.heap.size, 0, none⟩ = false := by simp [World.frozen?, hm.res]
  have g1 : W.frozen? ⟨w.heap.size, 1, none⟩ = false := by simp [World.frozen?, hm.res]
  have HM : Hid _ := hm
  clear hm
  go_wp2
  have E := mid_end HM.out hB hlt
  refine bodyPost_ret (v := .agg #[f, d]) (by simp [results, Yba.results14, go_sem, r0, r1]) rfl ⟨d, _, rfl, E.1, E.2.1, E.2.2⟩

end Go.Proofs.Ybulkbcxy
