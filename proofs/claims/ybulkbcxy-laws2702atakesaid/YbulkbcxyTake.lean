import Derived.Test.YbulkbcxyPop
namespace Go.Proofs.Ybulkbcxy
open Go.RowKit

theorem cap_small : ¬ (281474976710656 < Builtin.nextslicecap 1 0 * Yba.t3.bytes) := by decide +kernel

theorem clo_end (w : World) (lg c : Nat) (rest : Array Value) (hl : w.heap[lg]? = some (.cells #[.slice none 0 0] 23)) :
    ∃ g c', (((w.setCell ⟨lg, 0, none⟩ (.slice (some ⟨w.heap.size + 1, 0, none⟩) 1 c)).alloc (.cells #[.int .i64 0] 3)).alloc (.cells (#[.int .i64 0] ++ rest) 3)).drew.drew.heap[lg]? = some (.cells #[.slice (some ⟨g, 0, none⟩) 1 c'] 23) ∧
      (((w.setCell ⟨lg, 0, none⟩ (.slice (some ⟨w.heap.size + 1, 0, none⟩) 1 c)).alloc (.cells #[.int .i64 0] 3)).alloc (.cells (#[.int .i64 0] ++ rest) 3)).drew.drew.cell? ⟨g, 0, none⟩ = some (.int .i64 0) ∧
      w.grownBy (((w.setCell ⟨lg, 0, none⟩ (.slice (some ⟨w.heap.size + 1, 0, none⟩) 1 c)).alloc (.cells #[.int .i64 0] 3)).alloc (.cells (#[.int .i64 0] ++ rest) 3)).drew.drew (some lg) := by
  have hz : ((w.setCell ⟨lg, 0, none⟩ (.slice (some ⟨w.heap.size + 1, 0, none⟩) 1 c)).alloc (.cells #[.int .i64 0] 3)).heap.size = w.heap.size + 1 := by simp [World.setCell]
  refine ⟨w.heap.size + 1, c, ?_, ?_, ?_⟩
  · exact blk_alloc (w := (w.setCell ⟨lg, 0, none⟩ (.slice (some ⟨w.heap.size + 1, 0, none⟩) 1 c)).alloc (.cells #[.int .i64 0] 3)) _ (blk_alloc (w := w.setCell ⟨lg, 0, none⟩ (.slice (some ⟨w.heap.size + 1, 0, none⟩) 1 c)) _ (one_setCell hl))
  · have h1 := heap_alloc_new ((w.setCell ⟨lg, 0, none⟩ (.slice (some ⟨w.heap.size + 1, 0, none⟩) 1 c)).alloc (.cells #[.int .i64 0] 3)) (.cells (#[.int .i64 0] ++ rest) 3)
    rw [hz] at h1
    have h2 : (((w.setCell ⟨lg, 0, none⟩ (.slice (some ⟨w.heap.size + 1, 0, none⟩) 1 c)).alloc (.cells #[.int .i64 0] 3)).alloc (.cells (#[.int .i64 0] ++ rest) 3)).drew.drew.heap[w.heap.size + 1]? = some (.cells (#[.int .i64 0] ++ rest) 3) := h1
    simp only [World.cell?, h2]
    simp only [Option.isSome_none, Bool.false_eq_true, if_false]
    rw [Array.getElem?_append_left (by simp)]
    rfl
  · have g0 : w.grownBy w (some lg) := ⟨rfl, rfl, rfl, Nat.le_refl _, fun _ _ _ => rfl⟩
    have g1 := grown_setCell (a := ⟨lg, 0, none⟩) (v := .slice (some ⟨w.heap.size + 1, 0, none⟩) 1 c) g0 rfl
    have g2 := (g1.trans (World.grownBy_alloc _ (.cells #[.int .i64 0] 3) _)).trans (World.grownBy_alloc _ (.cells (#[.int .i64 0] ++ rest) 3) _)
    exact ⟨g2.os, g2.tape, g2.output, g2.size, g2.block⟩

set_option maxRecDepth 100000 in
set_option maxHeartbeats 400000 in
theorem clo_any (lb kb lg : Nat) (w : World) (hb : w.heap[lb]? = some (.cells #[.pointer (some ⟨lg, 0, none⟩)] 26)) (hk : w.heap[kb]? = some (.cells #[.int .i64 0] 3)) (hl : w.heap[lg]? = some (.cells #[.slice none 0 0] 23)) :
    Calls Yba.prog 11 #[.pointer (some ⟨lb, 0, none⟩), .pointer (some ⟨kb, 0, none⟩)] w fun e w' => e = .returned (.tuple #[]) ∧ ∃ g c, w'.heap[lg]? = some (.cells #[.slice (some ⟨g, 0, none⟩) 1 c] 23) ∧ w'.cell? ⟨g, 0, none⟩ = some (.int .i64 0) ∧ w.grownBy w' (some lg) := by
  have hcap := cap_small
  have cb := cell_of_one hb
  have ck := cell_of_one hk
  have cl := cell_of_one hl
  have fl := free_of_one hl
  have l1 := lt_of_block hb
  have l2 := lt_of_block hk
  have l3 := lt_of_block hl
  have l4 : lg < w.heap.size + 1 := by omega
  have HL : Hid _ := hl
  clear hb hk hl
  go_enter Yba.func11, Yba.ntmps11
  go_wp2
  go_region
  all_goals go_wp2
  go_end0
  exact ⟨rfl, clo_end w lg _ _ HL.out⟩

theorem field_run (f d : Value) (W : World) : (Instr.field 60 (.agg #[f, d]) 0).run Yba.prog W = .ok f W := by kernel_rfl

set_option maxRecDepth 100000 in
set_option maxHeartbeats 400000 in
/-- 'take()' where more tasks wait than starting keeps: the oldest one's 'run'. -/
theorem take_yes (p k B : Nat) (st cap qs : Int) (f : Value) (w : World) (hq : Queue w p k st cap qs f B) (hk : k ≤ 1024) (h0 : 0 ≤ st) (h1 : st < (k : Int)) (hB : B ≤ p) :
    Calls Yba.prog 9 #[.pointer (some ⟨p, 0, none⟩)] w fun e w' => e = .returned f ∧ ∃ r, w'.heap[p]? = some (.cells (poolArr st r 1 ((k : Int) - 1) cap qs) 57) ∧ Keep w w' ∧ Below B w w' := by
  obtain ⟨r, hp⟩ := hq.pool
  have c8 := pool_n hp
  have c5 := pool_st hp
  have c13 := pool_wn hp
  have c24 := pool_qs hp
  have hd : decide (st < (k : Int)) = true := by simpa using h1
  obtain ⟨m, g, cur, hR, hBg⟩ : ∃ m g cur, Ring w p m g k cur st cap qs f ∧ B ≤ g := by
    rcases hq with ⟨rfl, _⟩ | h
    · omega
    · exact h
  have HC : Hid (∀ j, Calls Yba.prog 14 #[.pointer (some ⟨p, 6, none⟩)] (w.drewN j) fun e w' => ∃ d r, e = .returned (.agg #[f, d]) ∧ w'.heap[p]? = some (.cells (poolArr st r 1 ((k : Int) - 1) cap qs) 57) ∧ Keep w w' ∧ Below B w w') := by
    intro j
    refine (pop_any p m g k B cur st cap qs f (w.drewN j) (hR.drewN j) (by omega) (by omega) hB hBg).mono ?_
    rintro e w' ⟨d, r, rfl, h1, h2, h3⟩
    exact ⟨d, r, rfl, h1, h2, (below_drewN (Below.refl B w) j).trans h3⟩
  clear hR hq hp
  go_enter Yba.func9, Yba.ntmps9
  go_wp2_with fail
  refine (waiting_any p k st qs _ c8 c5 c24 c13 (by omega) (by omega) h0 (by omega)).mono ?_
  rintro e w3 ⟨rfl, k3, rfl⟩
  go_wp2_with fail
  refine Calls.mono (HC.out _) ?_
  rintro e w' ⟨d, r', rfl, hp', hkp, hbl⟩
  have hfd := field_run f d
  go_wp2
  go_ret
  exact ⟨rfl, r', hp', hkp, hbl⟩

set_option maxRecDepth 100000 in
set_option maxHeartbeats 400000 in
theorem take_no (p k B : Nat) (st cap qs : Int) (f : Value) (w : World) (hq : Queue w p k st cap qs f B) (hk : k ≤ 1024) (h0 : 0 ≤ st) (h1 : (k : Int) ≤ st) (h2 : st ≤ 100000) :
    Calls Yba.prog 9 #[.pointer (some ⟨p, 0, none⟩)] w fun e w' => e = .returned .nilFunc ∧ ∃ j, w' = w.drewN j := by
  obtain ⟨r, hp⟩ := hq.pool
  have c8 := pool_n hp
  have c5 := pool_st hp
  have c13 := pool_wn hp
  have c24 := pool_qs hp
  have hd : decide (st < (k : Int)) = false := by simpa using h1
  clear hq hp
  go_enter Yba.func9, Yba.ntmps9
  go_wp2_with fail
  refine (waiting_any p k st qs _ c8 c5 c24 c13 (by omega) (by omega) h0 h2).mono ?_
  rintro e w3 ⟨rfl, k3, rfl⟩
  go_wp2
  go_ret
  exact ⟨rfl, k3, rfl⟩

theorem func_nil (a b : Value) (W : World) : (binOp .eql 1 (.func (Fn.func 11) #[] #[a, b]) .nilFunc).run Yba.prog W = .ok (.bool false) W := by kernel_rfl
theorem nil_nil (W : World) : (binOp .eql 1 .nilFunc .nilFunc).run Yba.prog W = .ok (.bool true) W := by kernel_rfl

set_option maxRecDepth 100000 in
set_option maxHeartbeats 1000000 in
theorem take_walk (n : Nat) (s qs : Int) (w : World) (hn : n ≤ 1024) (hs0 : 0 ≤ s) (hs1 : s ≤ 65535) :
    Calls Yba.prog 4 #[.int .u16 (n : Int), .int .u16 s, .int .i64 qs] w fun e w' => e = .returned (.bool true) ∧ Below w.heap.size w w' := by
  have hd : decide ((1024 : Int) < (n : Int)) = false := by simp; omega
  have hm0 : 0 ≤ s % ((n : Int) + 1) := Int.emod_nonneg _ (by omega)
  have hm1 : s % ((n : Int) + 1) ≤ (n : Int) := by have := Int.emod_lt_of_pos s (show (0 : Int) < (n : Int) + 1 by omega); omega
  go_enter Yba.func4, Yba.ntmps4
  go_wp2_with fail
  refine (build_any n _ qs _ _ hn).mono ?_
  rintro e w2 ⟨rfl, kb, hq, hlb, hkb, hbel⟩
  have hz : (w.alloc (.cells #[.slice none 0 0] 23)).heap.size = w.heap.size + 1 := by simp
  rw [hz] at hq hlb
  have hlg : w2.heap[w.heap.size]? = some (.cells #[.slice none 0 0] 23) := by
    rw [hbel.block w.heap.size (by omega)]
    exact heap_alloc_new w _
  have HB : Hid (Below w.heap.size w w2) := ((Below.refl _ _).alloc (Nat.le_refl _) _).trans (hbel.mono (by simp))
  have hst : s % ((n : Int) + 1) ≤ 100000 := by omega
  by_cases hlt : s % ((n : Int) + 1) < (n : Int)
  · have C : Hid (Calls Yba.prog 9 #[.pointer (some ⟨w.heap.size + 1 + 1, 0, none⟩)] w2 fun e w' => e = .returned (.func (Fn.func 11) #[] #[.pointer (some ⟨w.heap.size + 1, 0, none⟩), .pointer (some ⟨kb, 0, none⟩)]) ∧
        ∃ r, w'.heap[w.heap.size + 1 + 1]? = some (.cells (poolArr (s % ((n : Int) + 1)) r 1 ((n : Int) - 1) 1 qs) 57) ∧ Keep w2 w' ∧ Below (w.heap.size + 1) w2 w') :=
      take_yes (w.heap.size + 1 + 1) n (w.heap.size + 1) _ 1 qs _ w2 hq hn hm0 hlt (by omega)
    have hk0 := hkb (by omega)
    have HX : Hid _ := And.intro hlb (And.intro hk0 hlg)
    have hfn := func_nil
    clear hq hlb hkb hbel hz hlg hk0
    go_wp2_with fail
    refine Calls.mono C.out ?_
    rintro e w3 ⟨rfl, r, hp3, hkp, hb3⟩
    clear C
    have C2 : Hid _ := clo_any (w.heap.size + 1) kb w.heap.size w3 (hkp _ _ _ (by decide) (by decide) HX.out.1) (hkp _ _ _ (by decide) (by decide) HX.out.2.1) (hkp _ _ _ (by decide) (by decide) HX.out.2.2)
    have HP3 : Hid _ := hp3
    have HB3 : Hid _ := hb3
    clear HX hkp hp3 hb3
    go_wp2_with fail
    refine Calls.mono C2.out ?_
    rintro e w4 ⟨rfl, g, c, hlg4, hg0, hgr⟩
    have hp4 : w4.heap[w.heap.size + 1 + 1]? = some (.cells (poolArr (s % ((n : Int) + 1)) r 1 ((n : Int) - 1) 1 qs) 57) := by
      rw [hgr.block _ (lt_of_block HP3.out) (by simp; omega)]
      exact HP3.out
    have c8 := pool_n hp4
    have c5 := pool_st hp4
    have cl := cell_of_one hlg4
    have HB4 : Hid (Below w.heap.size w w4) := by
      have b1 : Below w.heap.size w w3 := HB.out.trans (HB3.out.mono (by omega))
      exact b1.grown hgr (by have := lt_of_block HP3.out; omega) (fun k hk => by simp at hk; omega)
    clear C2 hgr hp4 hlg4 HP3 HB3 HB
    go_wp2_with (go_at_call 7; refine (len_any _ ((n : Int) - 1) _ (by exact c8)).mono ?_; rintro e w' ⟨rfl, rfl⟩)
    go_ret
    exact ⟨rfl, HB4.out⟩
  · have C : Hid _ := take_no (w.heap.size + 1 + 1) n (w.heap.size + 1) _ 1 qs _ w2 hq hn hm0 (by omega) hst
    obtain ⟨r, hp⟩ := hq.pool
    have c8 := pool_n hp
    have c5 := pool_st hp
    have cl := cell_of_one hlg
    have hf := nil_nil
    clear hq hlb hkb hbel hp hz hlg
    go_wp2_with fail
    refine Calls.mono C.out ?_
    rintro e w3 ⟨rfl, k3, rfl⟩
    go_wp2_with (go_at_call 7; refine (len_any _ n _ (by exact c8)).mono ?_; rintro e w' ⟨rfl, rfl⟩)
    go_ret
    exact ⟨rfl, below_drewN HB.out k3⟩

set_option maxRecDepth 100000 in
theorem take_long (n s qs : Int) (w : World) (hn : 1024 < n) (hn1 : n ≤ 65535) :
    Calls Yba.prog 4 #[.int .u16 n, .int .u16 s, .int .i64 qs] w fun e w' => e = .returned (.bool true) ∧ Below w.heap.size w w' := by
  have hn0 : 0 ≤ n := by omega
  go_enter Yba.func4, Yba.ntmps4
  go_wp2
  go_ret
  exact ⟨rfl, Below.refl _ _⟩

end Go.Proofs.Ybulkbcxy
