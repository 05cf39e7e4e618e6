import Derived.Test.YbulkbcxyGrowWalk
import Derived.Deep.RegionWith
import Derived.Deep.Cut
namespace Go.Proofs.Ybulkbcxy
open Go.RowKit

theorem at_pow (p L : Nat) (i : Int) (ao : Option Addr) (c : Nat) (w : World) (hL : Hid (∃ m, m ≤ 20 ∧ L = 2 ^ m)) (h0 : 0 ≤ i) (h1 : i < (L : Int)) (hr : w.cell? ⟨p, 6, none⟩ = some (.slice ao L c)) (hh : w.cell? ⟨p, 7, none⟩ = some (.int .i64 0)) :
    Calls Yba.prog 16 #[.pointer (some ⟨p, 6, none⟩), .int .i64 i] w fun e w' => e = .returned (.int .i64 i) ∧ ∃ k, w' = w.drewN k := by
  obtain ⟨m, hm, rfl⟩ := hL.out
  exact at_any p m i ao c w hm h0 (by simpa using h1) hr hh

/-- The first job's 'run' behind a push. -/
def pick0 (k : Nat) (fv f : Value) : Value := if k = 0 then fv else f

section
variable {w : World} {p m g k : Nat} {cur : Array Value} {st cap qs : Int} {f : Value}

theorem Ring.alloc (h : Ring w p m g k cur st cap qs f) (o : Obj) : Ring (w.alloc o) p m g k cur st cap qs f :=
  ⟨blk_alloc o h.pool, blk_alloc o h.ring, h.size, h.one, h.first, h.lo, h.hi, h.fits⟩

/-- What 'push' leaves, once there is room: the job in its place, one more in the queue. -/
theorem ring_push (h : Ring w p m g k cur st cap qs f) (hk : k < 2 ^ m) (fv dv : Value) (h1 : fv.oneCell' = true) (h2 : dv.oneCell' = true) (n : Nat) :
    Ring ((((w.setCell ⟨g, k * 2, none⟩ fv).setCell ⟨g, k * 2 + 1, none⟩ dv).setCell ⟨p, 8, none⟩ (.int .i64 ((k : Int) + 1))).drewN n) p m g (k + 1) ((cur.setIfInBounds (k * 2) fv).setIfInBounds (k * 2 + 1) dv) st cap qs (pick0 k fv f) := by
  have hpg : p ≠ g := by
    intro e
    have := h.pool
    rw [e, h.ring] at this
    simp at this
  have hsz := h.size
  refine ⟨?_, ?_, by simp [h.size], ?_, ?_, h.lo, h.hi, by omega⟩
  · have q1 := blk_setCell_at (off := 8) (v := .int .i64 ((k : Int) + 1)) (blk_setCell_ne (a := ⟨g, k * 2 + 1, none⟩) (v := dv) (blk_setCell_ne (a := ⟨g, k * 2, none⟩) (v := fv) h.pool hpg) hpg)
    rw [pool_n_set] at q1
    exact q1
  · exact blk_setCell_ne (blk_setCell_at (blk_setCell_at h.ring)) (Ne.symm hpg)
  · intro v hv
    rw [Array.mem_toList_iff] at hv
    rcases Array.mem_or_eq_of_mem_setIfInBounds hv with hv | rfl
    · rcases Array.mem_or_eq_of_mem_setIfInBounds hv with hv | rfl
      · exact h.one v (by rwa [Array.mem_toList_iff])
      · exact h1
    · exact h2
  · intro _
    by_cases h0 : k = 0
    · subst h0
      simp only [pick0, if_true]
      rw [Array.getElem?_setIfInBounds, if_neg (by omega), Array.getElem?_setIfInBounds, if_pos (by omega), if_pos (by omega)]
    · simp only [pick0, h0, if_false]
      rw [Array.getElem?_setIfInBounds, if_neg (by omega), Array.getElem?_setIfInBounds, if_neg (by omega)]
      exact h.first (by omega)

end

theorem store_run (W : World) (a : Addr) (v u : Value) (h1 : v.oneCell' = true) (hc : W.cell? a = some u) (hf : W.frozen? a = false) : Sem.run Yba.prog (store a v) W = .ok () (W.setCell a v) := by
  have hst := run_store Yba.prog W a v .plain h1
  rw [hc] at hst
  simp only [hf] at hst
  exact hst

/-- The queue behind the pool p holds k jobs, the first one's 'run' being f: it has no ring yet, or one that lies from block B on. -/
def Queue (W : World) (p k : Nat) (st cap qs : Int) (f : Value) (B : Nat) : Prop :=
  (k = 0 ∧ W.heap[p]? = some (.cells (poolArr st (.slice none 0 0) 0 0 cap qs) 57)) ∨ ∃ m g cur, Ring W p m g k cur st cap qs f ∧ B ≤ g

/-- What is neither a pool nor a ring stays. -/
def Keep (W W' : World) : Prop := ∀ (b : Nat) (c : Array Value) (t : TypeId), t ≠ 57 → t ≠ 60 → W.heap[b]? = some (.cells c t) → W'.heap[b]? = some (.cells c t)

theorem Ring.drewN {w : World} {p m g k : Nat} {cur : Array Value} {st cap qs : Int} {f : Value} (h : Ring w p m g k cur st cap qs f) (n : Nat) : Ring (w.drewN n) p m g k cur st cap qs f :=
  ⟨h.pool, h.ring, h.size, h.one, h.first, h.lo, h.hi, h.fits⟩

theorem poolArr_inj {st st' : Int} {r r' : Value} {hd hd' n n' cap cap' qs qs' : Int} (h : poolArr st r hd n cap qs = poolArr st' r' hd' n' cap' qs') : r = r' := by
  have := congrArg (fun a => a[6]?) h
  simpa [poolArr] using this

theorem grow_full' (p m g k : Nat) (cur : Array Value) (st cap qs : Int) (f : Value) (w : World) (h : Ring w p m g k cur st cap qs f) (hk : k = 2 ^ m) (hm : m ≤ 10) :
    Calls Yba.prog 15 #[.pointer (some ⟨p, 6, none⟩)] w fun e w' => e = .returned (.tuple #[]) ∧ Ring w' p (m + 1) w.heap.size k (cur ++ blank (2 ^ m)) st cap qs f ∧ w.grownBy w' (some p) := by
  subst hk
  exact grow_full p m g cur st cap qs f w h hm

/-- Behind 'grow' the cut's relation holds. -/
theorem cut_grown {w w' : World} {p m k n B : Nat} {cur : Array Value} {st cap qs : Int} {f fv dv : Value} (hB : B ≤ p) (hlt : p < w.heap.size) (hk : k < 2 ^ m)
    (hR : Ring w' p m ((w.alloc (.cells #[fv, dv] 60)).drewN n).heap.size k cur st cap qs f) (hP : ∃ c, w.heap[p]? = some (.cells c 57)) (hg : ((w.alloc (.cells #[fv, dv] 60)).drewN n).grownBy w' (some p)) :
    ∃ m g cur, Ring w' p m g k cur st cap qs f ∧ k < 2 ^ m ∧ B ≤ g ∧ w'.heap[w.heap.size]? = some (.cells #[fv, dv] 60) ∧ w.heap.size ≠ g ∧ Keep w w' ∧ Below B w w' := by
  have hz : ((w.alloc (.cells #[fv, dv] 60)).drewN n).heap.size = w.heap.size + 1 := by simp
  obtain ⟨c0, hP⟩ := hP
  refine ⟨m, _, cur, hR, hk, by omega, ?_, by omega, ?_, ?_⟩
  · rw [hg.block w.heap.size (by omega) (by simp; omega)]
    exact heap_alloc_new w _
  · intro b c t h57 h60 hb
    have hbl := lt_of_block hb
    rw [hg.block b (by omega) (by
      simp
      intro e
      rw [e, hP] at hb
      simp at hb
      exact h57 hb.2.symm)]
    exact blk_alloc _ hb
  · have b1 : Below B w ((w.alloc (.cells #[fv, dv] 60)).drewN n) := below_drewN ((Below.refl B w).alloc (by omega) _) n
    exact b1.grown hg (by omega) (fun j hj => by simp at hj; omega)

/-- Where there is room already. -/
theorem cut_room {w : World} {p m g k n B : Nat} {cur : Array Value} {st cap qs : Int} {f fv dv : Value} (hB : B ≤ p) (hlt : p < w.heap.size) (hk : k < 2 ^ m) (hBg : B ≤ g)
    (hR : Ring w p m g k cur st cap qs f) :
    ∃ m g cur, Ring ((w.alloc (.cells #[fv, dv] 60)).drewN n) p m g k cur st cap qs f ∧ k < 2 ^ m ∧ B ≤ g ∧ ((w.alloc (.cells #[fv, dv] 60)).drewN n).heap[w.heap.size]? = some (.cells #[fv, dv] 60) ∧ w.heap.size ≠ g ∧ Keep w ((w.alloc (.cells #[fv, dv] 60)).drewN n) ∧ Below B w ((w.alloc (.cells #[fv, dv] 60)).drewN n) := by
  have hgl := lt_of_block hR.ring
  exact ⟨m, g, cur, (hR.alloc _).drewN n, hk, hBg, heap_alloc_new w _, by omega, fun b c t _ _ hb => blk_alloc _ hb, below_drewN ((Below.refl B w).alloc (by omega) _) n⟩

set_option maxRecDepth 100000 in
set_option maxHeartbeats 1000000 in
theorem push_any (p k B : Nat) (st cap qs : Int) (f fv dv : Value) (w : World) (hB : B ≤ p) (hq : Queue w p k st cap qs f B) (hk : k < 2000) (h1 : fv.oneCell' = true) (h2 : dv.oneCell' = true) :
    Calls Yba.prog 10 #[.pointer (some ⟨p, 6, none⟩), .agg #[fv, dv]] w fun e w' => e = .returned (.tuple #[]) ∧ Queue w' p (k + 1) st cap qs (pick0 k fv f) B ∧ Keep w w' ∧ Below B w w' := by
  obtain ⟨ao, L, hp, hL5⟩ : ∃ (ao : Option Addr) (L : Nat), w.heap[p]? = some (.cells (poolArr st (.slice ao L L) 0 k cap qs) 57) ∧ L ≤ 2048 := by
    rcases hq with ⟨rfl, h⟩ | ⟨m, g, cur, h, _⟩
    · exact ⟨none, 0, h, by omega⟩
    · exact ⟨_, _, h.pool, Nat.pow_le_pow_right (n := 2) (by omega) h.hi⟩
  have hr := pool_ring hp
  have hn := pool_n hp
  have hlt := lt_of_block hp
  have HP : Hid _ := hp
  have HQ : Hid _ := hq
  clear hp hq
  go_enter Yba.func10, Yba.ntmps10
  go_wp2
  go_quiet (fail)
  go_upto_if 13 with (fail)
  go_cut [] from 4 (fun w' => ∃ m g cur, Ring w' p m g k cur st cap qs f ∧ k < 2 ^ m ∧ B ≤ g ∧ w'.heap[w.heap.size]? = some (.cells #[fv, dv] 60) ∧ w.heap.size ≠ g ∧ Keep w w' ∧ Below B w w')
  case first =>
    rcases HQ.out with ⟨hk0, hpn⟩ | ⟨m, g, cur, hR, hBg⟩
    · have hpe := HP.out
      rw [hpn] at hpe
      have hv := poolArr_inj (by simpa using hpe)
      injection hv with e1 e2
      subst e1 e2 hk0
      have C : Hid _ := grow_first p st cap qs f ((w.alloc (.cells #[fv, dv] 60)).drewN nq) (blk_alloc (.cells #[fv, dv] 60) hpn)
      have HX : Hid (∃ c, w.heap[p]? = some (.cells c 57)) := ⟨_, hpn⟩
      clear hpn hpe HP HQ
      go_wp2_with (go_at_call 15; refine Calls.mono C.out ?_; rintro e w' ⟨rfl, hR', hg⟩)
      go_meet
      case rel => exact cut_grown hB hlt (by omega) hR' HX.out hg
    · have hpe := HP.out
      rw [hR.pool] at hpe
      have hv := poolArr_inj (by simpa using hpe)
      injection hv with e1 e2
      subst e1
      have hfits := hR.fits
      by_cases hkL : k = L
      · have hm : m ≤ 10 := by
          rcases Nat.lt_or_ge 10 m with h | h
          · have := Nat.pow_le_pow_right (n := 2) (by omega) (show 11 ≤ m by omega)
            omega
          · exact h
        have hb : ((k : Int) == (L : Int)) = true := by simp; omega
        have C : Hid _ := grow_full' p m g k cur st cap qs f ((w.alloc (.cells #[fv, dv] 60)).drewN nq) ((hR.alloc (.cells #[fv, dv] 60)).drewN nq) (by omega) hm
        have HX : Hid (∃ c, w.heap[p]? = some (.cells c 57)) := ⟨_, hR.pool⟩
        have HM : Hid (k < 2 ^ (m + 1)) := by
          show k < 2 ^ (m + 1)
          have := Nat.two_pow_pos m
          rw [Nat.pow_succ]; omega
        clear hpe HP HQ e2 hfits hkL hR hm
        go_wp2_with (go_at_call 15; refine Calls.mono C.out ?_; rintro e w' ⟨rfl, hR', hg⟩)
        go_meet
        case rel => exact cut_grown hB hlt HM.out hR' HX.out hg
      · have hb : ((k : Int) == (L : Int)) = false := by simp; omega
        have HX : Hid _ := cut_room (n := nq) (fv := fv) (dv := dv) hB hlt (show k < 2 ^ m by omega) hBg hR
        clear hpe HP HQ e2 hfits hkL hR
        go_wp2
        go_meet
        case rel => exact HX.out
  case rest =>
    obtain ⟨m, g, cur, hR, hkm, hBg, hbox, hbg, hkeep, hbel⟩ := hcut
    clear HP HQ hr hn
    obtain ⟨L', hL'⟩ : ∃ L : Nat, L = 2 ^ m := ⟨_, rfl⟩
    have HL : Hid (∃ m, m ≤ 20 ∧ L' = 2 ^ m) := ⟨m, by have := hR.hi; omega, hL'⟩
    have hkL : (k : Int) < (L' : Int) := by omega
    have hp1 := hR.pool
    rw [← hL'] at hp1
    have hr := pool_ring hp1
    have hh := pool_head hp1
    have hn := pool_n hp1
    have hL5' : L' ≤ 2048 := by rw [hL']; exact Nat.pow_le_pow_right (n := 2) (by omega) hR.hi
    obtain ⟨u0, hu0⟩ : ∃ u, wc.cell? ⟨g, k * 2, none⟩ = some u := by
      simp only [World.cell?, hR.ring]
      exact ⟨_, Array.getElem?_eq_getElem (by rw [hR.size]; omega)⟩
    obtain ⟨u1, hu1⟩ : ∃ u, wc.cell? ⟨g, k * 2 + 1, none⟩ = some u := by
      simp only [World.cell?, hR.ring]
      exact ⟨_, Array.getElem?_eq_getElem (by rw [hR.size]; omega)⟩
    have hf0 : wc.frozen? ⟨g, k * 2, none⟩ = false := by simp [World.frozen?, hR.ring]
    have hf1 : wc.frozen? ⟨g, k * 2 + 1, none⟩ = false := by simp [World.frozen?, hR.ring]
    have hf8 := pool_free hp1 8
    have hb0 : wc.cell? ⟨w.heap.size, 0, none⟩ = some fv := by simp [World.cell?, hbox]
    have hb1 : wc.cell? ⟨w.heap.size, 1, none⟩ = some dv := by simp [World.cell?, hbox]
    have hpg : ¬ p = g := by
      intro e
      have := hR.pool
      rw [e, hR.ring] at this
      simp at this
    have hgp : ¬ g = p := fun e => hpg e.symm
    have hk0 : (0 : Int) ≤ (k : Int) := by omega
    have HC : Hid (∀ n : Nat, Calls Yba.prog 16 #[.pointer (some ⟨p, 6, none⟩), .int .i64 (k : Int)] (wc.drewN n) fun e w' => e = .returned (.int .i64 (k : Int)) ∧ ∃ j, w' = wc.drewN (n + j)) := by
      intro n
      refine (at_pow p L' k (some ⟨g, 0, none⟩) L' (wc.drewN n) HL hk0 hkL hr hh).mono ?_
      rintro e w' ⟨rfl, j, rfl⟩
      exact ⟨rfl, j, by rw [World.drewN_drewN]⟩
    have hs0 : ∀ n, Sem.run Yba.prog (store ⟨g, k * 2, none⟩ fv) (wc.drewN n) = .ok () ((wc.setCell ⟨g, k * 2, none⟩ fv).drewN n) := by
      intro n
      exact store_run (wc.drewN n) ⟨g, k * 2, none⟩ fv u0 h1 hu0 hf0
    have hs1 : ∀ n, Sem.run Yba.prog (store ⟨g, k * 2 + 1, none⟩ dv) ((wc.setCell ⟨g, k * 2, none⟩ fv).drewN n) = .ok () (((wc.setCell ⟨g, k * 2, none⟩ fv).setCell ⟨g, k * 2 + 1, none⟩ dv).drewN n) := by
      intro n
      exact store_run ((wc.setCell ⟨g, k * 2, none⟩ fv).drewN n) ⟨g, k * 2 + 1, none⟩ dv u1 h2 (by go_simp) (by go_simp)
    have FIN : Hid (∀ n, Queue ((((wc.setCell ⟨g, k * 2, none⟩ fv).setCell ⟨g, k * 2 + 1, none⟩ dv).setCell ⟨p, 8, none⟩ (.int .i64 ((k : Int) + 1))).drewN n) p (k + 1) st cap qs (pick0 k fv f) B ∧
        Keep w ((((wc.setCell ⟨g, k * 2, none⟩ fv).setCell ⟨g, k * 2 + 1, none⟩ dv).setCell ⟨p, 8, none⟩ (.int .i64 ((k : Int) + 1))).drewN n) ∧ Below B w ((((wc.setCell ⟨g, k * 2, none⟩ fv).setCell ⟨g, k * 2 + 1, none⟩ dv).setCell ⟨p, 8, none⟩ (.int .i64 ((k : Int) + 1))).drewN n)) := by
      intro n
      refine ⟨.inr ⟨m, g, _, ring_push hR hkm fv dv h1 h2 n, hBg⟩, fun b c t h57 h60 hb => ?_, below_drewN (((hbel.setCell hBg fv).setCell hBg dv).setCell hB _) n⟩
      have hb' := hkeep b c t h57 h60 hb
      have n1 : b ≠ g := fun e => by rw [e, hR.ring] at hb'; simp at hb'; exact h60 hb'.2.symm
      have n2 : b ≠ p := fun e => by rw [e, hR.pool] at hb'; simp at hb'; exact h57 hb'.2.symm
      exact blk_setCell_ne (blk_setCell_ne (blk_setCell_ne hb' n1) n1) n2
    clear hR hkeep hbel hp1 hL' hu0 hu1 hf0 hf1 hbox
    go_wp2
    go_region_with (go_at_call 16; refine Calls.mono (HC.out _) ?_; rintro e w' ⟨rfl, kk, rfl⟩)
    all_goals go_wp2
    all_goals (go_end0; exact ⟨rfl, FIN.out (1 + kk)⟩)

end Go.Proofs.Ybulkbcxy
