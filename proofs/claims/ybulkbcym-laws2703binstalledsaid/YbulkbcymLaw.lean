import Derived.Test.YbulkbcymEvent
import Derived.Deep.MidRow
namespace Go.Proofs.Ybulkbcym
open Go.RowKit

/-- The law's first loop: i of the members are laid. -/
structure L1 (w W : World) (M N n i : Nat) (nm : Nat → ByteArray) (inc : Nat → Int) : Prop where
  ms : ∃ c, W.heap[M]? = some (.cells c 37) ∧ c.size = n * 6 ∧ ∀ j, j < i → c[j * 6]? = some (.string (nm j)) ∧ c[j * 6 + 1]? = some (.int .u64 (inc j)) ∧ c[j * 6 + 2]? = some (.int .u64 0) ∧ c[j * 6 + 3]? = some (.int .u64 0) ∧ c[j * 6 + 4]? = some (.pointer none) ∧ c[j * 6 + 5]? = some (.int .u16 0)
  want : ∃ c, W.heap[N]? = some (.cells c 25) ∧ c.size = n ∧ ∀ j, j < i → c[j]? = some (.int .u64 (inc j))
  lM : w.heap.size ≤ M
  lN : w.heap.size ≤ N
  bel : Below w.heap.size w W

theorem l1_there {w W : World} {M N n i : Nat} {nm : Nat → ByteArray} {inc : Nat → Int} (h : L1 w W M N n i nm inc) (hi : i < n) (j : Nat) (hj : j < 6) : ∃ u, W.cell? ⟨M, i * 6 + j, none⟩ = some u ∧ W.frozen? ⟨M, i * 6 + j, none⟩ = false := by
  obtain ⟨c, hc, hz, -⟩ := h.ms
  refine ⟨c[i * 6 + j]'(by omega), ?_, by simp [World.frozen?, hc]⟩
  simp only [World.cell?, hc]
  exact Array.getElem?_eq_getElem (by omega)
theorem l1_want {w W : World} {M N n i : Nat} {nm : Nat → ByteArray} {inc : Nat → Int} (h : L1 w W M N n i nm inc) (hi : i < n) : ∃ u, W.cell? ⟨N, i, none⟩ = some u ∧ W.frozen? ⟨N, i, none⟩ = false := by
  obtain ⟨c, hc, hz, -⟩ := h.want
  exact ⟨c[i], by simp only [World.cell?, hc]; exact Array.getElem?_eq_getElem (by omega), by simp [World.frozen?, hc]⟩

theorem l1_step {w W : World} {M N n i : Nat} {nm : Nat → ByteArray} {inc : Nat → Int} (h : L1 w W M N n i nm inc) (hi : i < n) :
    L1 w (((((((W.setCell ⟨M, i * 6, none⟩ (.string (nm i))).setCell ⟨M, i * 6 + 1, none⟩ (.int .u64 (inc i))).setCell ⟨M, i * 6 + 2, none⟩ (.int .u64 0)).setCell ⟨M, i * 6 + 3, none⟩ (.int .u64 0)).setCell ⟨M, i * 6 + 4, none⟩ (.pointer none)).setCell ⟨M, i * 6 + 5, none⟩ (.int .u16 0)).setCell ⟨N, i, none⟩ (.int .u64 (inc i))) M N n (i + 1) nm inc := by
  obtain ⟨c, hc, hz, hcm⟩ := h.ms
  obtain ⟨d, hd, hdz, hdm⟩ := h.want
  have nMN : M ≠ N := fun e => by rw [e, hd] at hc; simp at hc
  have hlM := h.lM
  have hlN := h.lN
  refine ⟨⟨_, blk_setCell_ne (blk_setCell_at (blk_setCell_at (blk_setCell_at (blk_setCell_at (blk_setCell_at (blk_setCell_at hc)))))) nMN, by simpa using hz, fun j hj => ?_⟩,
    ⟨_, blk_setCell_at (blk_setCell_ne (blk_setCell_ne (blk_setCell_ne (blk_setCell_ne (blk_setCell_ne (blk_setCell_ne hd (Ne.symm nMN)) (Ne.symm nMN)) (Ne.symm nMN)) (Ne.symm nMN)) (Ne.symm nMN)) (Ne.symm nMN)), by simpa using hdz, fun j hj => ?_⟩, hlM, hlN, ?_⟩
  · by_cases e : j = i
    · subst e
      refine ⟨?_, ?_, ?_, ?_, ?_, ?_⟩ <;> repeat (first | rw [Array.getElem?_setIfInBounds_ne (by omega)] | rw [Array.getElem?_setIfInBounds_self_of_lt (by first | omega | (simp; omega))])
    · obtain ⟨q0, q1, q2, q3, q4, q5⟩ := hcm j (by omega)
      refine ⟨?_, ?_, ?_, ?_, ?_, ?_⟩ <;> (repeat rw [Array.getElem?_setIfInBounds_ne (by omega)]) <;> assumption
  · by_cases e : j = i
    · subst e
      rw [Array.getElem?_setIfInBounds_self_of_lt (by omega)]
    · rw [Array.getElem?_setIfInBounds_ne (by omega)]
      exact hdm j (by omega)
  · exact ((((((h.bel.setCell hlM _).setCell hlM _).setCell hlM _).setCell hlM _).setCell hlM _).setCell hlM _).setCell hlN _

/-- The event has come back. -/
structure T (w W : World) (grp id : ByteArray) (V M N E A I n : Nat) (nm : Nat → ByteArray) (inc : Nat → Int) : Prop where
  ev : W.heap[E]? = some (.cells (evArr grp id A I n) 48)
  view : ∃ arr, W.heap[V]? = some (.cells arr 62) ∧ arr[3]? = some (.slice (some ⟨M, 0, none⟩) n n)
  names : ∃ c, W.heap[A]? = some (.cells c 9) ∧ c.size = n ∧ ∀ j, j < n → c[j]? = some (.string (nm j))
  incs : ∃ c, W.heap[I]? = some (.cells c 25) ∧ c.size = n ∧ ∀ j, j < n → c[j]? = some (.int .u64 (inc j))
  l1 : L1 w W M N n n nm inc
  lA : w.heap.size ≤ A
  lI : w.heap.size ≤ I
  nI : N ≠ I

theorem t_below {w W W' : World} {grp id : ByteArray} {V M N E A I n : Nat} {nm : Nat → ByteArray} {inc : Nat → Int} (h : T w W grp id V M N E A I n nm inc) (hb : Below W.heap.size W W') : T w W' grp id V M N E A I n nm inc := by
  have k : ∀ (b : Nat) (o : Obj), W.heap[b]? = some o → W'.heap[b]? = some o := fun b o hbo => (hb.block b (lt_of_block hbo)).trans hbo
  obtain ⟨arr, h1, h2⟩ := h.view
  obtain ⟨c, h3, h4⟩ := h.names
  obtain ⟨d, h5, h6⟩ := h.incs
  obtain ⟨e, h7, h8⟩ := h.l1.ms
  obtain ⟨f, h9, h10⟩ := h.l1.want
  refine ⟨k _ _ h.ev, ⟨arr, k _ _ h1, h2⟩, ⟨c, k _ _ h3, h4⟩, ⟨d, k _ _ h5, h6⟩, ⟨⟨e, k _ _ h7, h8⟩, ⟨f, k _ _ h9, h10⟩, h.l1.lM, h.l1.lN, ?_⟩, h.lA, h.lI, h.nI⟩
  have hs := h.l1.bel.size
  exact h.l1.bel.trans ⟨hb.os, hb.tape, hb.output, hb.size, fun j hj => hb.block j (by omega)⟩

/-- What 'installed' asks, behind 'newView'. -/
theorem t_asks {w wr w1 : World} {grp id : ByteArray} {V M N n : Nat} {nm : Nat → ByteArray} {inc : Nat → Int} {arr : Array Value} (h : L1 w wr M N n n nm inc) (hblk : w1.heap[V]? = some (.cells arr 62)) (harr : ArrOk grp id (.slice (some ⟨M, 0, none⟩) n n) arr) (hgr : wr.grownBy w1 none) :
    w1.cell? ⟨V, 0, none⟩ = some (.string grp) ∧ w1.cell? ⟨V, 2, none⟩ = some (.string id) ∧ w1.cell? ⟨V, 3, none⟩ = some (.slice (some ⟨M, 0, none⟩) n n) ∧ M < w1.heap.size ∧
    ∀ j, j < n → w1.cell? ⟨M, j * 6, none⟩ = some (.string (nm j)) ∧ w1.cell? ⟨M, j * 6 + 1, none⟩ = some (.int .u64 (inc j)) ∧ w1.cell? ⟨M, j * 6 + 2, none⟩ = some (.int .u64 0) ∧ w1.cell? ⟨M, j * 6 + 3, none⟩ = some (.int .u64 0) ∧ w1.cell? ⟨M, j * 6 + 4, none⟩ = some (.pointer none) ∧ w1.cell? ⟨M, j * 6 + 5, none⟩ = some (.int .u16 0) := by
  obtain ⟨c, hc, hz, hcm⟩ := h.ms
  have hlt := lt_of_block hc
  have hc1 : w1.heap[M]? = some (.cells c 37) := (hgr.block M hlt (by simp)).trans hc
  refine ⟨by simp only [World.cell?, hblk]; exact harr.1, by simp only [World.cell?, hblk]; exact harr.2.1, by simp only [World.cell?, hblk]; exact harr.2.2, lt_of_block hc1, fun j hj => ?_⟩
  simp only [World.cell?, hc1]
  exact hcm j hj

theorem t_make {w wr w1 w2 : World} {grp id : ByteArray} {V M N A I n : Nat} {nm : Nat → ByteArray} {inc : Nat → Int} {arr : Array Value} (h : L1 w wr M N n n nm inc) (hblk : w1.heap[V]? = some (.cells arr 62)) (harr : ArrOk grp id (.slice (some ⟨M, 0, none⟩) n n) arr) (hgr : wr.grownBy w1 none)
    (hd : Done w1 w2 A I n nm inc) : T w ((w2.alloc (.cells evZero 48)).setRow w2.heap.size (evArr grp id A I n)) grp id V M N w2.heap.size A I n nm inc := by
  have k : ∀ (b : Nat) (o : Obj), w2.heap[b]? = some o → ((w2.alloc (.cells evZero 48)).setRow w2.heap.size (evArr grp id A I n)).heap[b]? = some o := fun b o hbo => by
    have hlt := lt_of_block hbo
    rw [setRow_other _ _ b _ (by omega)]
    exact blk_alloc _ hbo
  have k1 : ∀ (b : Nat) (o : Obj), w1.heap[b]? = some o → w2.heap[b]? = some o := fun b o hbo => (hd.bel.block b (lt_of_block hbo)).trans hbo
  have k0 : ∀ (b : Nat) (o : Obj), wr.heap[b]? = some o → w1.heap[b]? = some o := fun b o hbo => (hgr.block b (lt_of_block hbo) (by simp)).trans hbo
  obtain ⟨c, h3, h4⟩ := hd.names
  obtain ⟨d, h5, h6⟩ := hd.incs
  obtain ⟨e, h7, h8⟩ := h.ms
  obtain ⟨f, h9, h10⟩ := h.want
  have hlA := hd.lA
  have hlI := hd.lI
  have s0 := h.bel.size
  have s1 := hgr.size
  have s2 := hd.bel.size
  have hN := lt_of_block h9
  refine ⟨setRow_heap _ _ evZero _ 48 (0, 0) (heap_alloc_new w2 _), ⟨arr, k _ _ (k1 _ _ hblk), harr.2.2⟩, ⟨c, k _ _ h3, h4⟩, ⟨d, k _ _ h5, h6⟩, ⟨⟨e, k _ _ (k1 _ _ (k0 _ _ h7)), h8⟩, ⟨f, k _ _ (k1 _ _ (k0 _ _ h9)), h10⟩, h.lM, h.lN, ?_⟩, by omega, by omega, by omega⟩
  have b1 : Below w.heap.size w w1 := h.bel.trans ⟨hgr.os, hgr.tape, hgr.output, hgr.size, fun j hj => hgr.block j (by omega) (by simp)⟩
  have b2 : Below w.heap.size w w2 := b1.trans ⟨hd.bel.os, hd.bel.tape, hd.bel.output, hd.bel.size, fun j hj => hd.bel.block j (by omega)⟩
  exact (b2.alloc (by omega) (.cells evZero 48)).trans ⟨rfl, rfl, rfl, by simp [World.setRow], fun k hk => setRow_other _ _ k _ (by omega)⟩

theorem t_cell {w W : World} {grp id : ByteArray} {V M N E A I n : Nat} {nm : Nat → ByteArray} {inc : Nat → Int} (h : T w W grp id V M N E A I n nm inc) (k : Nat) (v : Value) (hk : (evArr grp id A I n)[k]? = some v) : W.cell? ⟨E, k, none⟩ = some v := by
  simp only [World.cell?, h.ev]
  exact hk

theorem t_name {w W : World} {grp id : ByteArray} {V M N E A I n k : Nat} {nm : Nat → ByteArray} {inc : Nat → Int} (h : T w W grp id V M N E A I n nm inc) (hk : k < n) : W.cell? ⟨A, k, none⟩ = some (.string (nm k)) := by
  obtain ⟨c, h1, h2, h3⟩ := h.names
  simp only [World.cell?, h1]
  exact h3 k hk
theorem t_inc {w W : World} {grp id : ByteArray} {V M N E A I n k : Nat} {nm : Nat → ByteArray} {inc : Nat → Int} (h : T w W grp id V M N E A I n nm inc) (hk : k < n) : W.cell? ⟨I, k, none⟩ = some (.int .u64 (inc k)) := by
  obtain ⟨c, h1, h2, h3⟩ := h.incs
  simp only [World.cell?, h1]
  exact h3 k hk
theorem t_want {w W : World} {grp id : ByteArray} {V M N E A I n k : Nat} {nm : Nat → ByteArray} {inc : Nat → Int} (h : T w W grp id V M N E A I n nm inc) (hk : k < n) : W.cell? ⟨N, k, none⟩ = some (.int .u64 (inc k)) := by
  obtain ⟨c, h1, h2, h3⟩ := h.l1.want
  simp only [World.cell?, h1]
  exact h3 k hk
theorem t_drewN {w W : World} {grp id : ByteArray} {V M N E A I n : Nat} {nm : Nat → ByteArray} {inc : Nat → Int} (h : T w W grp id V M N E A I n nm inc) (q : Nat) : T w (W.drewN q) grp id V M N E A I n nm inc :=
  t_below h ⟨rfl, rfl, rfl, Nat.le_refl _, fun _ _ => rfl⟩

theorem t_first {w W : World} {grp id : ByteArray} {V M N E A I n : Nat} {nm : Nat → ByteArray} {inc : Nat → Int} (h : T w W grp id V M N E A I n nm inc) (_hk : 0 < n) :
    W.cell? ⟨V, 3, none⟩ = some (.slice (some ⟨M, 0, none⟩) n n) ∧ W.cell? ⟨M, 0, none⟩ = some (.string (nm 0)) ∧ W.cell? ⟨M, 1, none⟩ = some (.int .u64 (inc 0)) ∧ True ∧ True ∧ W.frozen? ⟨A, 0, none⟩ = false ∧ W.frozen? ⟨I, 0, none⟩ = false := by
  obtain ⟨arr, h1, h2⟩ := h.view
  obtain ⟨c, h3, h4⟩ := h.names
  obtain ⟨d, h5, h6⟩ := h.incs
  obtain ⟨e, h7, h8, h9⟩ := h.l1.ms
  obtain ⟨m0, m1, -⟩ := h9 0 _hk
  refine ⟨by simp only [World.cell?, h1]; exact h2, by simp only [World.cell?, h7]; simpa using m0, by simp only [World.cell?, h7]; simpa using m1, trivial, trivial, by simp [World.frozen?, h3], by simp [World.frozen?, h5]⟩
theorem t_ne {w W : World} {grp id : ByteArray} {V M N E A I n : Nat} {nm : Nat → ByteArray} {inc : Nat → Int} (h : T w W grp id V M N E A I n nm inc) :
    A ≠ E ∧ I ≠ E ∧ A ≠ I ∧ A ≠ V ∧ I ≠ V ∧ A ≠ M ∧ I ≠ M ∧ A ≠ N ∧ I ≠ N := by
  obtain ⟨arr, h1, h2⟩ := h.view
  obtain ⟨c, h3, h4⟩ := h.names
  obtain ⟨d, h5, h6⟩ := h.incs
  obtain ⟨e, h7, h8, h9⟩ := h.l1.ms
  obtain ⟨f, h10, h11⟩ := h.l1.want
  have hev := h.ev
  refine ⟨?_, ?_, ?_, ?_, ?_, ?_, ?_, ?_, h.nI.symm⟩ <;> (intro e; subst e; simp_all)

def incAt (n3 : Nat) (z : Nat → Int) (j : Nat) : Int := if n3 = 0 then 0 else z (j % n3)

set_option maxRecDepth 100000 in
set_option maxHeartbeats 4000000 in
theorem walk (grp id : ByteArray) (a2 a3 : Option Addr) (n c2 n3 c3 : Nat) (nm : Nat → ByteArray) (z : Nat → Int) (me : Int) (w : World) (hn : n ≤ 1024) (hn3 : n3 ≤ 1024) (hme0 : 0 ≤ me) (hme1 : me ≤ 255)
    (hs : ∀ i, i < n → ∃ b off, a2 = some ⟨b, off, none⟩ ∧ b < w.heap.size ∧ w.cell? ⟨b, off + i, none⟩ = some (.string (nm i)))
    (hz : ∀ i, i < n3 → ∃ b off, a3 = some ⟨b, off, none⟩ ∧ b < w.heap.size ∧ w.cell? ⟨b, off + i, none⟩ = some (.int .u64 (z i)))
    (hx : 0 < n → (nm 0).size + 1 ≤ 9223372036854775807) :
    Calls Yba.prog 3 #[.string grp, .string id, .slice a2 n c2, .slice a3 n3 c3, .int .u8 me] w fun e w' => e = .returned (.bool true) ∧ Below w.heap.size w w' := by
  obtain ⟨c24, z24, r24⟩ := mk24 n hn
  obtain ⟨c23, z23, r23⟩ := mk23 n hn
  have hd1 : decide ((1024 : Int) < (n : Int)) = false := by simp; omega
  have hd2 : decide ((1024 : Int) < (n3 : Int)) = false := by simp; omega
  have HL : Hid (L1 w ((w.alloc (.cells c24 37)).alloc (.cells c23 25)) w.heap.size (w.heap.size + 1) n 0 nm (incAt n3 z)) :=
    ⟨⟨c24, blk_alloc _ (heap_alloc_new w _), z24, fun j hj => by omega⟩, ⟨c23, by simpa using heap_alloc_new (w.alloc (.cells c24 37)) (.cells c23 25), z23, fun j hj => by omega⟩, Nat.le_refl _, by omega, ((Below.refl _ _).alloc (Nat.le_refl _) _).alloc (by simp) _⟩
  have HS : Hid _ := hs
  have HZ : Hid _ := hz
  clear hs hz z24 z23
  go_enter Yba.func3, Yba.ntmps3
  go_wp2
  go_loopw [14] (fun t wr => ∃ i : Nat, i ≤ n ∧ t = .int .i64 i ∧ L1 w wr w.heap.size (w.heap.size + 1) n i nm (incAt n3 z)) (fun t _ => n - (intOf t).toNat)
  case atStart => exact ⟨0, Nat.zero_le _, rfl, HL.out⟩
  case round =>
    clear HL
    obtain ⟨i, hin, rfl, hl⟩ := hrel
    by_cases hlt : i < n
    · obtain ⟨b2, off2, ha2, hb2, hsi⟩ := HS.out i hlt
      subst ha2
      have hsc : wr.cell? ⟨b2, off2 + i, none⟩ = some (.string (nm i)) := (hl.bel.cell (p := ⟨b2, off2 + i, none⟩) hb2).trans hsi
      obtain ⟨v0, hv0, fv0⟩ := l1_there hl hlt 0 (by omega)
      obtain ⟨v1, hv1, fv1⟩ := l1_there hl hlt 1 (by omega)
      obtain ⟨v2, hv2, fv2⟩ := l1_there hl hlt 2 (by omega)
      obtain ⟨v3, hv3, fv3⟩ := l1_there hl hlt 3 (by omega)
      obtain ⟨v4, hv4, fv4⟩ := l1_there hl hlt 4 (by omega)
      obtain ⟨v5, hv5, fv5⟩ := l1_there hl hlt 5 (by omega)
      simp only [Nat.add_zero] at hv0 fv0
      obtain ⟨un, hun, fun'⟩ := l1_want hl hlt
      have hi0 : (0 : Int) ≤ (i : Int) := by omega
      have hi1 : (i : Int) < (n : Int) := by omega
      have R : Hid _ := l1_step hl hlt
      have HB : Hid _ := hl.bel
      clear hsi hl
      by_cases h3 : n3 = 0
      · subst h3
        have e0 : incAt 0 z i = 0 := rfl
        simp only [e0] at R
        go_wp2
        go_roundw
        case rel => exact ⟨i + 1, by omega, by go_num, R.out⟩
        case measure => simp [intOf]; omega
      · have hm : i % n3 < n3 := Nat.mod_lt _ (by omega)
        obtain ⟨b3, off3, ha3, hb3, hzi⟩ := HZ.out (i % n3) hm
        subst ha3
        have hzc : wr.cell? ⟨b3, off3 + i % n3, none⟩ = some (.int .u64 (z (i % n3))) := (HB.out.cell (p := ⟨b3, off3 + i % n3, none⟩) hb3).trans hzi
        have e0 : incAt n3 z i = z (i % n3) := if_neg h3
        simp only [e0] at R
        have h30 : (0 : Int) < (n3 : Int) := by omega
        have hq0 : (0 : Int) ≤ (i : Int) % (n3 : Int) := by omega
        have hq1 : (i : Int) % (n3 : Int) < (n3 : Int) := Int.emod_lt_of_pos _ h30
        clear hzi e0
        go_wp2
        go_roundw
        case rel => exact ⟨i + 1, by omega, by go_num, R.out⟩
        case measure => simp [intOf]; omega
    · have e : i = n := by omega
      subst e
      have lN := hl.lN
      have HLL : Hid _ := hl
      have HX : Hid _ := hx
      clear hl hlt hin hx lN
      have q22 := @Lib.run_eql_slice_nil Yba.prog
      have qn := @run_neq_slice_nil_any Yba.prog
      have h00 : i = 0 ∨ 0 < i := Nat.eq_zero_or_pos i
      rcases h00 with h00 | h00
      case inl =>
        have hpos : decide ((0 : Int) < (i : Int)) = false := by simp; omega
        have hposN : decide (0 < i) = false := by simp; omega
        clear h00
        go_wp2_with (go_at_call 4; refine Hid.out ?_)
        delta Hid
        refine Calls.mono (newView_any grp id (some ⟨w.heap.size, 0, none⟩) i i _ wr hn) ?_
        rintro e w1 ⟨V, arr, rfl, hV, hblk, harr, hgr⟩
        obtain ⟨p0, p2, p3, pM, pm⟩ := t_asks HLL.out hblk harr hgr
        have P : Hid _ := And.intro hblk (And.intro harr hgr)
        have C5 : Hid _ := installed_any V w.heap.size i grp id nm (incAt n3 z) w1 hn p0 p2 p3 pM pm
        clear hblk harr hgr p0 p2 p3 pM pm
        go_wp2_with (go_at_call 5; refine Hid.out ?_)
        delta Hid
        refine Calls.mono C5.out ?_
        rintro e w2 ⟨A, I, rfl, hd⟩
        have HT : Hid _ := t_make HLL.out P.out.1 P.out.2.1 P.out.2.2 hd
        clear C5 P hd
        go_wp2_with (first | (refine wpList_store_row rfl 48 (.tmp 18) (.tmp 74) rfl w2.heap.size (evArr grp id A I i) rfl rfl 48 evZero (heap_alloc_new w2 _) size48 rfl (evArr_one grp id A I i) ?_; refine Hid.out ?_))
        delta Hid
        obtain ⟨W3, hW3⟩ : ∃ W3, W3 = (w2.alloc (.cells evZero 48)).setRow w2.heap.size (evArr grp id A I i) := ⟨_, rfl⟩
        change wpList _ _ _ _ _ ((w2.alloc (.cells evZero 48)).setRow w2.heap.size (evArr grp id A I i))
        rw [← hW3]
        have ht : T w W3 grp id V w.heap.size (w.heap.size + 1) w2.heap.size A I i nm (incAt n3 z) := by rw [hW3]; exact HT.out
        clear hW3 HT HLL hV
        generalize w2.heap.size = E at ht ⊢
        have g0 := t_cell ht 0 (.int .i64 1) rfl
        have g1 := t_cell ht 1 (.int .u64 0) rfl
        have g2 := t_cell ht 2 (.int .i64 0) rfl
        have g3 := t_cell ht 3 (.pointer none) rfl
        have g4 := t_cell ht 4 (.string grp) rfl
        have g5 := t_cell ht 5 (.string id) rfl
        have g6 := t_cell ht 6 (.slice (some ⟨A, 0, none⟩) i i) rfl
        have g7 := t_cell ht 7 (.string ⟨#[]⟩) rfl
        have g8 := t_cell ht 8 (.int .u64 0) rfl
        have g9 := t_cell ht 9 (.string ⟨#[]⟩) rfl
        have g10 := t_cell ht 10 (.slice none 0 0) rfl
        have g11 := t_cell ht 11 (.slice none 0 0) rfl
        have g12 := t_cell ht 12 (.int .u8 0) rfl
        have g13 := t_cell ht 13 (.int .u64 0) rfl
        have g14 := t_cell ht 14 (.int .i64 0) rfl
        have g15 := t_cell ht 15 (.string ⟨#[]⟩) rfl
        have g16 := t_cell ht 16 (.slice (some ⟨I, 0, none⟩) i i) rfl
        have H3 : Hid _ := ht
        clear ht
        go_wp2
        clear g0 g1 g2 g3 g4 g5 g6 g7 g8 g9 g10 g11 g12 g13 g14 g15 g16
        go_loopw [19] (fun t W => ∃ k : Nat, k ≤ i ∧ t = .int .i64 k ∧ T w W grp id V w.heap.size (w.heap.size + 1) E A I i nm (incAt n3 z)) (fun t _ => i - (intOf t).toNat)
        case atStart => exact ⟨0, Nat.zero_le _, rfl, H3.out⟩
        case round =>
          clear H3
          obtain ⟨k, hk, rfl, ht⟩ := hrel
          by_cases hki : k < i
          · obtain ⟨b2, off2, ha2, hb2, hsi⟩ := HS.out k hki
            subst ha2
            have hsc : wr.cell? ⟨b2, off2 + k, none⟩ = some (.string (nm k)) := (ht.l1.bel.cell (p := ⟨b2, off2 + k, none⟩) hb2).trans hsi
            have g6 := t_cell ht 6 (.slice (some ⟨A, 0, none⟩) i i) rfl
            have g16 := t_cell ht 16 (.slice (some ⟨I, 0, none⟩) i i) rfl
            have gA := t_name ht hki
            have gI := t_inc ht hki
            have gN := t_want ht hki
            have hi0 : (0 : Int) ≤ (k : Int) := by omega
            have hi1 : (k : Int) < (i : Int) := by omega
            have H3 : Hid _ := ht
            clear ht hsi
            go_wp2
            go_quiet (fail)
            go_wp2
            go_roundw
            case rel => exact ⟨k + 1, by omega, by go_num, t_drewN H3.out nq⟩
            case measure => simp [intOf]; omega
          · have e : k = i := by omega
            subst e
            have g1 := t_cell ht 1 (.int .u64 0) rfl
            have g2 := t_cell ht 2 (.int .i64 0) rfl
            have g3 := t_cell ht 3 (.pointer none) rfl
            have H3 : Hid _ := ht
            clear ht hki hk
            go_wp2_with (go_at_call 6; refine Hid.out ?_)
            delta Hid
            refine Calls.mono (zero_time none wr) ?_
            rintro e W4 ⟨rfl, hb6⟩
            have ht4 := t_below H3.out hb6
            clear hb6 H3 g1 g2 g3
            have k0 := t_cell ht4 0 (.int .i64 1) rfl
            have k1 := t_cell ht4 1 (.int .u64 0) rfl
            have k2 := t_cell ht4 2 (.int .i64 0) rfl
            have k3 := t_cell ht4 3 (.pointer none) rfl
            have k4 := t_cell ht4 4 (.string grp) rfl
            have k5 := t_cell ht4 5 (.string id) rfl
            have k6 := t_cell ht4 6 (.slice (some ⟨A, 0, none⟩) k k) rfl
            have k7 := t_cell ht4 7 (.string ⟨#[]⟩) rfl
            have k8 := t_cell ht4 8 (.int .u64 0) rfl
            have k9 := t_cell ht4 9 (.string ⟨#[]⟩) rfl
            have k10 := t_cell ht4 10 (.slice none 0 0) rfl
            have k11 := t_cell ht4 11 (.slice none 0 0) rfl
            have k12 := t_cell ht4 12 (.int .u8 0) rfl
            have k13 := t_cell ht4 13 (.int .u64 0) rfl
            have k14 := t_cell ht4 14 (.int .i64 0) rfl
            have k15 := t_cell ht4 15 (.string ⟨#[]⟩) rfl
            have k16 := t_cell ht4 16 (.slice (some ⟨I, 0, none⟩) k k) rfl
            have H4 : Hid _ := ht4
            clear ht4
            go_wp2
            go_ret
            exact ⟨rfl, H4.out.l1.bel⟩
      case inr =>
        have hpos : (0 : Int) < (i : Int) := by omega
        have hm0 : 0 ≤ me % (i : Int) := Int.emod_nonneg _ (by omega)
        go_wp2_with (go_at_call 4; refine Hid.out ?_)
        delta Hid
        refine Calls.mono (newView_any grp id (some ⟨w.heap.size, 0, none⟩) i i _ wr hn) ?_
        rintro e w1 ⟨V, arr, rfl, hV, hblk, harr, hgr⟩
        obtain ⟨p0, p2, p3, pM, pm⟩ := t_asks HLL.out hblk harr hgr
        have P : Hid _ := And.intro hblk (And.intro harr hgr)
        have C5 : Hid _ := installed_any V w.heap.size i grp id nm (incAt n3 z) w1 hn p0 p2 p3 pM pm
        clear hblk harr hgr p0 p2 p3 pM pm
        go_wp2_with (go_at_call 5; refine Hid.out ?_)
        delta Hid
        refine Calls.mono C5.out ?_
        rintro e w2 ⟨A, I, rfl, hd⟩
        have HT : Hid _ := t_make HLL.out P.out.1 P.out.2.1 P.out.2.2 hd
        clear C5 P hd
        go_wp2_with (first | (refine wpList_store_row rfl 48 (.tmp 18) (.tmp 74) rfl w2.heap.size (evArr grp id A I i) rfl rfl 48 evZero (heap_alloc_new w2 _) size48 rfl (evArr_one grp id A I i) ?_; refine Hid.out ?_))
        delta Hid
        obtain ⟨W3, hW3⟩ : ∃ W3, W3 = (w2.alloc (.cells evZero 48)).setRow w2.heap.size (evArr grp id A I i) := ⟨_, rfl⟩
        change wpList _ _ _ _ _ ((w2.alloc (.cells evZero 48)).setRow w2.heap.size (evArr grp id A I i))
        rw [← hW3]
        have ht : T w W3 grp id V w.heap.size (w.heap.size + 1) w2.heap.size A I i nm (incAt n3 z) := by rw [hW3]; exact HT.out
        clear hW3 HT HLL hV
        generalize w2.heap.size = E at ht ⊢
        have g0 := t_cell ht 0 (.int .i64 1) rfl
        have g1 := t_cell ht 1 (.int .u64 0) rfl
        have g2 := t_cell ht 2 (.int .i64 0) rfl
        have g3 := t_cell ht 3 (.pointer none) rfl
        have g4 := t_cell ht 4 (.string grp) rfl
        have g5 := t_cell ht 5 (.string id) rfl
        have g6 := t_cell ht 6 (.slice (some ⟨A, 0, none⟩) i i) rfl
        have g7 := t_cell ht 7 (.string ⟨#[]⟩) rfl
        have g8 := t_cell ht 8 (.int .u64 0) rfl
        have g9 := t_cell ht 9 (.string ⟨#[]⟩) rfl
        have g10 := t_cell ht 10 (.slice none 0 0) rfl
        have g11 := t_cell ht 11 (.slice none 0 0) rfl
        have g12 := t_cell ht 12 (.int .u8 0) rfl
        have g13 := t_cell ht 13 (.int .u64 0) rfl
        have g14 := t_cell ht 14 (.int .i64 0) rfl
        have g15 := t_cell ht 15 (.string ⟨#[]⟩) rfl
        have g16 := t_cell ht 16 (.slice (some ⟨I, 0, none⟩) i i) rfl
        have H3 : Hid _ := ht
        clear ht
        go_wp2
        clear g0 g1 g2 g3 g4 g5 g6 g7 g8 g9 g10 g11 g12 g13 g14 g15 g16
        go_loopw [19] (fun t W => ∃ k : Nat, k ≤ i ∧ t = .int .i64 k ∧ T w W grp id V w.heap.size (w.heap.size + 1) E A I i nm (incAt n3 z)) (fun t _ => i - (intOf t).toNat)
        case atStart => exact ⟨0, Nat.zero_le _, rfl, H3.out⟩
        case round =>
          clear H3
          obtain ⟨k, hk, rfl, ht⟩ := hrel
          by_cases hki : k < i
          · obtain ⟨b2, off2, ha2, hb2, hsi⟩ := HS.out k hki
            subst ha2
            have hsc : wr.cell? ⟨b2, off2 + k, none⟩ = some (.string (nm k)) := (ht.l1.bel.cell (p := ⟨b2, off2 + k, none⟩) hb2).trans hsi
            have g6 := t_cell ht 6 (.slice (some ⟨A, 0, none⟩) i i) rfl
            have g16 := t_cell ht 16 (.slice (some ⟨I, 0, none⟩) i i) rfl
            have gA := t_name ht hki
            have gI := t_inc ht hki
            have gN := t_want ht hki
            have hi0 : (0 : Int) ≤ (k : Int) := by omega
            have hi1 : (k : Int) < (i : Int) := by omega
            have H3 : Hid _ := ht
            clear ht hsi
            go_wp2
            go_quiet (fail)
            go_wp2
            go_roundw
            case rel => exact ⟨k + 1, by omega, by go_num, t_drewN H3.out nq⟩
            case measure => simp [intOf]; omega
          · have e : k = i := by omega
            subst e
            have g1 := t_cell ht 1 (.int .u64 0) rfl
            have g2 := t_cell ht 2 (.int .i64 0) rfl
            have g3 := t_cell ht 3 (.pointer none) rfl
            have H3 : Hid _ := ht
            clear ht hki hk
            go_wp2_with (go_at_call 6; refine Hid.out ?_)
            delta Hid
            refine Calls.mono (zero_time none wr) ?_
            rintro e W4 ⟨rfl, hb6⟩
            have ht4 := t_below H3.out hb6
            clear hb6 H3 g1 g2 g3
            have k0 := t_cell ht4 0 (.int .i64 1) rfl
            have k1 := t_cell ht4 1 (.int .u64 0) rfl
            have k2 := t_cell ht4 2 (.int .i64 0) rfl
            have k3 := t_cell ht4 3 (.pointer none) rfl
            have k4 := t_cell ht4 4 (.string grp) rfl
            have k5 := t_cell ht4 5 (.string id) rfl
            have k6 := t_cell ht4 6 (.slice (some ⟨A, 0, none⟩) k k) rfl
            have k7 := t_cell ht4 7 (.string ⟨#[]⟩) rfl
            have k8 := t_cell ht4 8 (.int .u64 0) rfl
            have k9 := t_cell ht4 9 (.string ⟨#[]⟩) rfl
            have k10 := t_cell ht4 10 (.slice none 0 0) rfl
            have k11 := t_cell ht4 11 (.slice none 0 0) rfl
            have k12 := t_cell ht4 12 (.int .u8 0) rfl
            have k13 := t_cell ht4 13 (.int .u64 0) rfl
            have k14 := t_cell ht4 14 (.int .i64 0) rfl
            have k15 := t_cell ht4 15 (.string ⟨#[]⟩) rfl
            have k16 := t_cell ht4 16 (.slice (some ⟨I, 0, none⟩) k k) rfl
            have H4 : Hid _ := ht4
            clear ht4
            obtain ⟨b2, off2, ha2, hb2, hsi⟩ := HS.out 0 h00
            subst ha2
            have hsc : W4.cell? ⟨b2, off2, none⟩ = some (.string (nm 0)) := (H4.out.l1.bel.cell (p := ⟨b2, off2, none⟩) hb2).trans hsi
            obtain ⟨y0, y1, y2, y3, y4, fA, fI⟩ := t_first H4.out h00
            obtain ⟨d1, d2, d3, d4, d5, d6, d7, d8, d9⟩ := t_ne H4.out
            have d10 : ¬ A = b2 := by have := H4.out.lA; omega
            have d11 : ¬ I = b2 := by have := H4.out.lI; omega
            have e1 := Ne.symm d1
            have e2 := Ne.symm d2
            have e3 := Ne.symm d3
            have e4 := Ne.symm d4
            have e5 := Ne.symm d5
            have e6 := Ne.symm d6
            have e7 := Ne.symm d7
            have e8 := Ne.symm d8
            have e9 := Ne.symm d9
            have e10 := Ne.symm d10
            have e11 := Ne.symm d11
            have z0 := t_name H4.out h00
            have z1 := t_inc H4.out h00
            have z2 := t_want H4.out h00
            have hx := HX.out h00
            clear hsi
            go_wp2
            go_region
            go_wp2
            go_quiet (fail)
            go_wp2
            go_ret
            have hb : Below w.heap.size w ((W4.setCell ⟨A, 0, none⟩ (.string (nm 0 ++ ⟨#[120]⟩))).setCell ⟨I, 0, none⟩ (.int .u64 (IntKind.u64.wrap (incAt n3 z 0 + 1)))) := (H4.out.l1.bel.setCell (show w.heap.size ≤ A from H4.out.lA) _).setCell (show w.heap.size ≤ I from H4.out.lI) _
            exact ⟨rfl, hb.drew.trans ⟨rfl, rfl, rfl, Nat.le_refl _, fun _ _ => rfl⟩⟩
end Go.Proofs.Ybulkbcym
