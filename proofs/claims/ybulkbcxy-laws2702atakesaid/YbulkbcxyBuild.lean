import Derived.Test.YbulkbcxyPush
namespace Go.Proofs.Ybulkbcxy
open Go.RowKit

/-- A job's 'run': the closure over the box of 'log' and the box of its own number. -/
def clo (lb kb : Nat) : Value := .func (Fn.func 11) #[] #[.pointer (some ⟨lb, 0, none⟩), .pointer (some ⟨kb, 0, none⟩)]

section
variable {W : World} {p k B : Nat} {st cap qs : Int} {f : Value}

theorem Queue.alloc (h : Queue W p k st cap qs f B) (o : Obj) : Queue (W.alloc o) p k st cap qs f B := by
  rcases h with ⟨h0, hp⟩ | ⟨m, g, cur, hR, hB⟩
  · exact .inl ⟨h0, blk_alloc o hp⟩
  · exact .inr ⟨m, g, cur, hR.alloc o, hB⟩

theorem Queue.pool (h : Queue W p k st cap qs f B) : ∃ r, W.heap[p]? = some (.cells (poolArr st r 0 k cap qs) 57) := by
  rcases h with ⟨rfl, hp⟩ | ⟨m, g, cur, hR, hB⟩
  · exact ⟨_, hp⟩
  · exact ⟨_, hR.pool⟩

theorem Queue.setSt (h : Queue W p k st cap qs f B) (st' : Int) : Queue (W.setCell ⟨p, 5, none⟩ (.int .i64 st')) p k st' cap qs f B := by
  rcases h with ⟨h0, hp⟩ | ⟨m, g, cur, hR, hB⟩
  · refine .inl ⟨h0, ?_⟩
    rw [← pool_st_set st st']
    exact blk_setCell_at hp
  · refine .inr ⟨m, g, cur, ⟨?_, ?_, hR.size, hR.one, hR.first, hR.lo, hR.hi, hR.fits⟩, hB⟩
    · rw [← pool_st_set st st']
      exact blk_setCell_at hR.pool
    · refine blk_setCell_ne hR.ring (fun e => ?_)
      have := hR.pool
      rw [← show g = p from e, hR.ring] at this
      simp at this

theorem Queue.first {f' : Value} (h : Queue W p 0 st cap qs f B) : Queue W p 0 st cap qs f' B := by
  rcases h with ⟨h0, hp⟩ | ⟨m, g, cur, hR, hB⟩
  · exact .inl ⟨h0, hp⟩
  · exact .inr ⟨m, g, cur, ⟨hR.pool, hR.ring, hR.size, hR.one, fun h => by omega, hR.lo, hR.hi, hR.fits⟩, hB⟩

end

theorem Keep.trans {a b c : World} (h : Keep a b) (h' : Keep b c) : Keep a c := fun x cs t h1 h2 hx => h' x cs t h1 h2 (h x cs t h1 h2 hx)

theorem pool_get9 (st : Int) (r : Value) (hd n cap qs : Int) : (poolArr st r hd n cap qs)[9]? = some (.int .i64 cap) := rfl
theorem pool_get24 (st : Int) (r : Value) (hd n cap qs : Int) : (poolArr st r hd n cap qs)[24]? = some (.int .i64 qs) := rfl

/-- What the loop carries. -/
structure Built (w W : World) (log : Addr) (k : Nat) (qs : Int) (kb : Nat) : Prop where
  q : Queue W (w.heap.size + 1) k 0 1 qs (clo w.heap.size kb) w.heap.size
  lb : W.heap[w.heap.size]? = some (.cells #[.pointer (some log)] 26)
  kbc : 0 < k → W.heap[kb]? = some (.cells #[.int .i64 0] 3)
  bel : Below w.heap.size w W

theorem queue_start (w : World) (log : Addr) (qs : Int) : Built w ((w.alloc (.cells #[.pointer (some log)] 26)).alloc (.cells (poolArr 0 (.slice none 0 0) 0 0 1 qs) 57)) log 0 qs 0 := by
  have h1 := heap_alloc_new (w.alloc (.cells #[.pointer (some log)] 26)) (.cells (poolArr 0 (.slice none 0 0) 0 0 1 qs) 57)
  have hz : (w.alloc (.cells #[.pointer (some log)] 26)).heap.size = w.heap.size + 1 := by simp
  rw [hz] at h1
  exact ⟨.inl ⟨rfl, h1⟩, blk_alloc _ (heap_alloc_new w _), fun h => by omega, ((Below.refl _ _).alloc (Nat.le_refl _) _).alloc (by simp) _⟩

theorem built_push {w wr w' : World} {log : Addr} {k kb : Nat} {qs : Int} (h : Built w wr log k qs kb)
    (hq : Queue w' (w.heap.size + 1) (k + 1) 0 1 qs (pick0 k (clo w.heap.size wr.heap.size) (clo w.heap.size kb)) w.heap.size)
    (hk : Keep (wr.alloc (.cells #[.int .i64 (k : Int)] 3)) w') (hb : Below w.heap.size (wr.alloc (.cells #[.int .i64 (k : Int)] 3)) w') : ∃ kb', Built w w' log (k + 1) qs kb' := by
  have hlt : w.heap.size < wr.heap.size := lt_of_block h.lb
  have hlb := hk _ _ _ (by decide) (by decide) (blk_alloc (.cells #[.int .i64 (k : Int)] 3) h.lb)
  have hbel : Below w.heap.size w w' := (h.bel.alloc (by omega) _).trans hb
  by_cases h0 : k = 0
  · subst h0
    exact ⟨wr.heap.size, hq, hlb, fun _ => hk _ _ _ (by decide) (by decide) (heap_alloc_new wr _), hbel⟩
  · simp only [pick0, h0, if_false] at hq
    exact ⟨kb, hq, hlb, fun _ => hk _ _ _ (by decide) (by decide) (blk_alloc _ (h.kbc (by omega))), hbel⟩

set_option maxRecDepth 100000 in
set_option maxHeartbeats 1000000 in
theorem build_any (n : Nat) (s qs : Int) (log : Addr) (w : World) (hn : n ≤ 1024) :
    Calls Yba.prog 5 #[.int .i64 (n : Int), .int .i64 s, .int .i64 qs, .pointer (some log)] w fun e w' => e = .returned (.pointer (some ⟨w.heap.size + 1, 0, none⟩)) ∧
      ∃ kb, Queue w' (w.heap.size + 1) n s 1 qs (clo w.heap.size kb) w.heap.size ∧ w'.heap[w.heap.size]? = some (.cells #[.pointer (some log)] 26) ∧ (0 < n → w'.heap[kb]? = some (.cells #[.int .i64 0] 3)) ∧ Below w.heap.size w w' := by
  have hz := zero57
  have e9 := pool_get9
  have e24 := pool_get24
  have s9 := pool_cap_set
  have s24 := pool_qs_set
  have hq0 := queue_start w log qs
  go_enter Yba.func5, Yba.ntmps5
  go_wp2
  go_loopw [10] (fun i wr => ∃ (k kb : Nat), k ≤ n ∧ i = .int .i64 k ∧ Built w wr log k qs kb) (fun i _ => n - (intOf i).toNat)
  case atStart => exact ⟨0, 0, Nat.zero_le _, rfl, hq0⟩
  case round =>
    clear hz e9 e24 s9 s24 hq0
    obtain ⟨k, kb, hk, rfl, hb⟩ := hrel
    by_cases hkn : k < n
    · have C : Hid (Calls Yba.prog 10 #[.pointer (some ⟨w.heap.size + 1, 6, none⟩), .agg #[.func (Fn.func 11) #[] #[.pointer (some ⟨w.heap.size, 0, none⟩), .pointer (some ⟨wr.heap.size, 0, none⟩)], .nilFunc]] (wr.alloc (.cells #[.int .i64 (k : Int)] 3)) fun e w' =>
          e = .returned (.tuple #[]) ∧ Queue w' (w.heap.size + 1) (k + 1) 0 1 qs (pick0 k (clo w.heap.size wr.heap.size) (clo w.heap.size kb)) w.heap.size ∧ Keep (wr.alloc (.cells #[.int .i64 (k : Int)] 3)) w' ∧ Below w.heap.size (wr.alloc (.cells #[.int .i64 (k : Int)] 3)) w') :=
        push_any (w.heap.size + 1) k w.heap.size 0 1 qs (clo w.heap.size kb) (clo w.heap.size wr.heap.size) .nilFunc (wr.alloc (.cells #[.int .i64 (k : Int)] 3)) (by omega) (hb.q.alloc _) (by omega) rfl rfl
      have HB : Hid _ := hb
      clear hb
      go_wp2_with fail
      refine Calls.mono C.out ?_
      rintro e w' ⟨rfl, hq, hkp, hbl⟩
      obtain ⟨kb', hb'⟩ := built_push HB.out hq hkp hbl
      have HB' : Hid _ := hb'
      clear hq hkp hbl C HB hb'
      go_wp2
      go_roundw
      case rel => exact ⟨k + 1, kb', by omega, by go_num, HB'.out⟩
      case measure => simp [intOf]; omega
    · have e : k = n := by omega
      subst e
      obtain ⟨r, hp⟩ := hb.q.pool
      have hc5 := pool_st hp
      have hf5 := pool_free hp 5
      have FIN : Hid (∃ kb, Queue (wr.setCell ⟨w.heap.size + 1, 5, none⟩ (.int .i64 s)) (w.heap.size + 1) k s 1 qs (clo w.heap.size kb) w.heap.size ∧ (wr.setCell ⟨w.heap.size + 1, 5, none⟩ (.int .i64 s)).heap[w.heap.size]? = some (.cells #[.pointer (some log)] 26) ∧
          (0 < k → (wr.setCell ⟨w.heap.size + 1, 5, none⟩ (.int .i64 s)).heap[kb]? = some (.cells #[.int .i64 0] 3)) ∧ Below w.heap.size w (wr.setCell ⟨w.heap.size + 1, 5, none⟩ (.int .i64 s))) := by
        refine ⟨kb, hb.q.setSt s, blk_setCell_ne hb.lb (show w.heap.size ≠ w.heap.size + 1 by omega), fun h0 => blk_setCell_ne (hb.kbc h0) (fun e => ?_), hb.bel.setCell (show w.heap.size ≤ w.heap.size + 1 by omega) _⟩
        have h3 := hb.kbc h0
        rw [show kb = w.heap.size + 1 from e, hp] at h3
        simp at h3
      clear hb hp
      go_wp2
      go_ret
      exact ⟨rfl, FIN.out⟩

end Go.Proofs.Ybulkbcxy
