import Derived.Test.YbulkbcymView
import Derived.Deep.Cut
namespace Go.Proofs.Ybulkbcym
open Go.RowKit

theorem info9 : (Yba.prog.info? 9).map (fun i => (i.zero, i.size, i.bytes)) = some (some (.string ⟨#[]⟩), 1, 16) := by kernel_rfl
theorem info25 : (Yba.prog.info? 25).map (fun i => (i.zero, i.size, i.bytes)) = some (some (.int .u64 0), 1, 8) := by kernel_rfl
theorem info37 : (Yba.prog.info? 37).map (fun i => (i.zero, i.size, i.bytes)) = some (some (.agg #[.string ⟨#[]⟩, .int .u64 0, .int .u64 0, .int .u64 0, .pointer none, .int .u16 0]), 6, 56) := by kernel_rfl

theorem make_size (t e : TypeId) (i : TypeInfo) (z : Value) (ht : Yba.prog.underlying t = some (.slice e)) (hi : Yba.prog.info? e = some i) (hz : i.zero = some z) (hb : i.bytes ≤ 64) (n : Nat) (hn : n ≤ 1024) :
    ∃ c : Array Value, c.size = n * i.size ∧ ∀ W : World, (Instr.makeSlice t (.int .i64 (n : Int)) (.int .i64 (n : Int))).run Yba.prog W = .ok (.slice (some ⟨W.heap.size, 0, none⟩) n n) (W.alloc (.cells c e)) := by
  refine ⟨madeCells z.cells (n * i.size), size_madeCells _ _, fun W => ?_⟩
  have hb' : (i.bytes : Int) * (n : Int) ≤ 281474976710656 := by
    have h1 : i.bytes * n ≤ 64 * 1024 := Nat.mul_le_mul hb hn
    have h2 : ((i.bytes * n : Nat) : Int) ≤ 281474976710656 := by omega
    rwa [Int.natCast_mul] at h2
  have hr := run_make (P := Yba.prog) W t e i z ht hi hz .i64 .i64 n n (by omega) (Int.le_refl _) hb' (by omega)
  simp only [Int.toNat_natCast] at hr
  exact hr

theorem mk22 (n : Nat) (hn : n ≤ 1024) : ∃ c : Array Value, c.size = n ∧ ∀ W : World, (Instr.makeSlice 22 (.int .i64 (n : Int)) (.int .i64 (n : Int))).run Yba.prog W = .ok (.slice (some ⟨W.heap.size, 0, none⟩) n n) (W.alloc (.cells c 9)) := by
  obtain ⟨i, hi, hz0, hz1, hz2⟩ := info_parts info9
  obtain ⟨c, h1, h2⟩ := make_size 22 9 i _ Yba.underlying22 hi hz0 (by omega) n hn
  exact ⟨c, by rw [h1, hz1]; omega, h2⟩
theorem mk23 (n : Nat) (hn : n ≤ 1024) : ∃ c : Array Value, c.size = n ∧ ∀ W : World, (Instr.makeSlice 23 (.int .i64 (n : Int)) (.int .i64 (n : Int))).run Yba.prog W = .ok (.slice (some ⟨W.heap.size, 0, none⟩) n n) (W.alloc (.cells c 25)) := by
  obtain ⟨i, hi, hz0, hz1, hz2⟩ := info_parts info25
  obtain ⟨c, h1, h2⟩ := make_size 23 25 i _ Yba.underlying23 hi hz0 (by omega) n hn
  exact ⟨c, by rw [h1, hz1]; omega, h2⟩
theorem mk24 (n : Nat) (hn : n ≤ 1024) : ∃ c : Array Value, c.size = n * 6 ∧ ∀ W : World, (Instr.makeSlice 24 (.int .i64 (n : Int)) (.int .i64 (n : Int))).run Yba.prog W = .ok (.slice (some ⟨W.heap.size, 0, none⟩) n n) (W.alloc (.cells c 37)) := by
  obtain ⟨i, hi, hz0, hz1, hz2⟩ := info_parts info37
  obtain ⟨c, h1, h2⟩ := make_size 24 37 i _ Yba.underlying24 hi hz0 (by omega) n hn
  exact ⟨c, by rw [h1, hz1], h2⟩

theorem cell_alloc_keep {W : World} {o : Obj} {a : Addr} {v : Value} (h : W.cell? a = some v) : (W.alloc o).cell? a = some v :=
  (World.cell?_of_block (Below.heap_alloc W o a.block (World.block_lt_of_cell? W a h))).trans h
theorem cell_drew_keep {W : World} {a : Addr} {v : Value} (h : W.cell? a = some v) : W.drew.cell? a = some v := h

/-- The cells of the event. -/
def evArr (grp id : ByteArray) (A I n : Nat) : Array Value :=
  #[.int .i64 1, .int .u64 0, .int .i64 0, .pointer none, .string grp, .string id, .slice (some ⟨A, 0, none⟩) n n, .string ⟨#[]⟩, .int .u64 0, .string ⟨#[]⟩, .slice none 0 0, .slice none 0 0, .int .u8 0, .int .u64 0, .int .i64 0, .string ⟨#[]⟩, .slice (some ⟨I, 0, none⟩) n n]
def evZero : Array Value :=
  #[.int .i64 0, .int .u64 0, .int .i64 0, .pointer none, .string ⟨#[]⟩, .string ⟨#[]⟩, .slice none 0 0, .string ⟨#[]⟩, .int .u64 0, .string ⟨#[]⟩, .slice none 0 0, .slice none 0 0, .int .u8 0, .int .u64 0, .int .i64 0, .string ⟨#[]⟩, .slice none 0 0]

/-- What 'installed' holds once its event is laid: i of the members are over. -/
structure Ev (w W : World) (grp id : ByteArray) (E A I n i : Nat) (nm : Nat → ByteArray) (inc : Nat → Int) : Prop where
  ev : W.heap[E]? = some (.cells (evArr grp id A I n) 48)
  lE : w.heap.size < E
  res : W.heap[w.heap.size]? = some (.cells evZero 48)
  names : ∃ c, W.heap[A]? = some (.cells c 9) ∧ c.size = n ∧ ∀ j, j < i → c[j]? = some (.string (nm j))
  incs : ∃ c, W.heap[I]? = some (.cells c 25) ∧ c.size = n ∧ ∀ j, j < i → c[j]? = some (.int .u64 (inc j))
  lA : w.heap.size < A
  lI : w.heap.size < I
  bel : Below w.heap.size w W

theorem arr49 (t : Array Value) (h : t.size = 49) : t = #[t[0], t[1], t[2], t[3], t[4], t[5], t[6], t[7], t[8], t[9], t[10], t[11], t[12], t[13], t[14], t[15], t[16], t[17], t[18], t[19], t[20], t[21], t[22], t[23], t[24], t[25], t[26], t[27], t[28], t[29], t[30], t[31], t[32], t[33], t[34], t[35], t[36], t[37], t[38], t[39], t[40], t[41], t[42], t[43], t[44], t[45], t[46], t[47], t[48]] := by
  apply Array.ext
  · simp [h]
  · intro i h1 h2
    have : i < 49 := by omega
    rcases (show i = 0 ∨ i = 1 ∨ i = 2 ∨ i = 3 ∨ i = 4 ∨ i = 5 ∨ i = 6 ∨ i = 7 ∨ i = 8 ∨ i = 9 ∨ i = 10 ∨ i = 11 ∨ i = 12 ∨ i = 13 ∨ i = 14 ∨ i = 15 ∨ i = 16 ∨ i = 17 ∨ i = 18 ∨ i = 19 ∨ i = 20 ∨ i = 21 ∨ i = 22 ∨ i = 23 ∨ i = 24 ∨ i = 25 ∨ i = 26 ∨ i = 27 ∨ i = 28 ∨ i = 29 ∨ i = 30 ∨ i = 31 ∨ i = 32 ∨ i = 33 ∨ i = 34 ∨ i = 35 ∨ i = 36 ∨ i = 37 ∨ i = 38 ∨ i = 39 ∨ i = 40 ∨ i = 41 ∨ i = 42 ∨ i = 43 ∨ i = 44 ∨ i = 45 ∨ i = 46 ∨ i = 47 ∨ i = 48 by omega) with rfl | rfl | rfl | rfl | rfl | rfl | rfl | rfl | rfl | rfl | rfl | rfl | rfl | rfl | rfl | rfl | rfl | rfl | rfl | rfl | rfl | rfl | rfl | rfl | rfl | rfl | rfl | rfl | rfl | rfl | rfl | rfl | rfl | rfl | rfl | rfl | rfl | rfl | rfl | rfl | rfl | rfl | rfl | rfl | rfl | rfl | rfl | rfl | rfl <;> rfl

theorem arr49' (t : Array Value) (h : t.size = 49) : ∃ u0 u1 u2 u3 u4 u5 u6 u7 u8 u9 u10 u11 u12 u13 u14 u15 u16 u17 u18 u19 u20 u21 u22 u23 u24 u25 u26 u27 u28 u29 u30 u31 u32 u33 u34 u35 u36 u37 u38 u39 u40 u41 u42 u43 u44 u45 u46 u47 u48, t = #[u0, u1, u2, u3, u4, u5, u6, u7, u8, u9, u10, u11, u12, u13, u14, u15, u16, u17, u18, u19, u20, u21, u22, u23, u24, u25, u26, u27, u28, u29, u30, u31, u32, u33, u34, u35, u36, u37, u38, u39, u40, u41, u42, u43, u44, u45, u46, u47, u48] :=
  ⟨t[0], t[1], t[2], t[3], t[4], t[5], t[6], t[7], t[8], t[9], t[10], t[11], t[12], t[13], t[14], t[15], t[16], t[17], t[18], t[19], t[20], t[21], t[22], t[23], t[24], t[25], t[26], t[27], t[28], t[29], t[30], t[31], t[32], t[33], t[34], t[35], t[36], t[37], t[38], t[39], t[40], t[41], t[42], t[43], t[44], t[45], t[46], t[47], t[48], arr49 t h⟩

/-- What each operation of the event's literal has left in its slot. -/
def ok2 (w : World) (grp id : ByteArray) (V n : Nat) (c22 c23 : Array Value) (j : Nat) (v : Value) (W : World) : Prop :=
  if j = 3 then v = .string grp else if j = 7 then v = .string id else if j = 8 ∨ j = 10 then v = .int .i64 (n : Int)
  else if j = 6 then v = .pointer (some ⟨V, 2, none⟩)
  else if j = 9 then ∃ A, v = .slice (some ⟨A, 0, none⟩) n n ∧ w.heap.size < A ∧ W.heap[A]? = some (.cells c22 9)
  else if j = 11 then ∃ I, v = .slice (some ⟨I, 0, none⟩) n n ∧ w.heap.size < I ∧ W.heap[I]? = some (.cells c23 25)
  else if j = 12 then ∃ A I, v = .agg (evArr grp id A I n) ∧ w.heap.size < A ∧ W.heap[A]? = some (.cells c22 9) ∧ w.heap.size < I ∧ W.heap[I]? = some (.cells c23 25)
  else if j = 13 then ∃ E c, v = .pointer (some ⟨E, 0, none⟩) ∧ w.heap.size < E ∧ W.heap[E]? = some (.cells c 48) ∧ c.size = 17
  else v = .pointer (some ⟨V, 0, none⟩)

def dst2 (j : Nat) : Nat := if j = 13 then 4 else 12 + j

/-- How the region turns the world: nothing but an event's own block. -/
structure Turn (w W W' : World) : Prop where
  other : ∀ (b : Nat) (c : Array Value) (t : TypeId), t ≠ 48 → W.heap[b]? = some (.cells c t) → W'.heap[b]? = some (.cells c t)
  event : ∀ (b : Nat) (c : Array Value), c.size = 17 → W.heap[b]? = some (.cells c 48) → ∃ c', c'.size = 17 ∧ W'.heap[b]? = some (.cells c' 48)
  res : W.heap[w.heap.size]? = some (.cells evZero 48) → W'.heap[w.heap.size]? = some (.cells evZero 48)
  old : Below w.heap.size W W'

structure J2 (w : World) (grp id : ByteArray) (V n : Nat) (c22 c23 : Array Value) (l : Array Bool) (a : Act) (W : World) : Prop where
  sz : l.size = 15
  tz : a.tmps.size = 49
  df : a.defers = []
  b0 : a.tmps[0]? = some (.pointer (some ⟨V, 0, none⟩))
  b1 : a.tmps[1]? = some undef
  b2 : a.tmps[2]? = some (.pointer (some ⟨w.heap.size, 0, none⟩))
  b3 : a.tmps[3]? = some (.int .i64 (n : Int))
  cg : w.cell? ⟨V, 0, none⟩ = some (.string grp)
  ci : w.cell? ⟨V, 2, none⟩ = some (.string id)
  res : W.heap[w.heap.size]? = some (.cells evZero 48)
  slots : ∀ j, j < 14 → l.getD j false = true → ∃ v, a.tmps[dst2 j]? = some v ∧ ok2 w grp id V n c22 c23 j v W
  last : l.getD 14 false = true → ∃ E A I, a.tmps[4]? = some (.pointer (some ⟨E, 0, none⟩)) ∧ w.heap.size < E ∧ W.heap[E]? = some (.cells (evArr grp id A I n) 48) ∧
    w.heap.size < A ∧ W.heap[A]? = some (.cells c22 9) ∧ w.heap.size < I ∧ W.heap[I]? = some (.cells c23 25)
  all : l.getD 14 false = true → ∀ j, j < 14 → l.getD j true = true
  bel : Below w.heap.size w W

theorem ok2_mono {w W W' : World} {grp id : ByteArray} {V n j : Nat} {c22 c23 : Array Value} {v : Value} (h : ok2 w grp id V n c22 c23 j v W) (ht : Turn w W W') : ok2 w grp id V n c22 c23 j v W' := by
  unfold ok2 at *
  by_cases h9 : j = 9
  · subst h9
    simp only [Nat.reduceEqDiff, if_false, if_true, or_self] at h ⊢
    obtain ⟨A, h1, h2, h3⟩ := h
    exact ⟨A, h1, h2, ht.other _ _ _ (by decide) h3⟩
  by_cases h11 : j = 11
  · subst h11
    simp only [Nat.reduceEqDiff, if_false, if_true, or_self] at h ⊢
    obtain ⟨A, h1, h2, h3⟩ := h
    exact ⟨A, h1, h2, ht.other _ _ _ (by decide) h3⟩
  by_cases h12 : j = 12
  · subst h12
    simp only [Nat.reduceEqDiff, if_false, if_true, or_self] at h ⊢
    obtain ⟨A, I, h1, h2, h3, h4, h5⟩ := h
    exact ⟨A, I, h1, h2, ht.other _ _ _ (by decide) h3, h4, ht.other _ _ _ (by decide) h5⟩
  by_cases h13 : j = 13
  · subst h13
    simp only [Nat.reduceEqDiff, if_false, if_true, or_self] at h ⊢
    obtain ⟨E, c, h1, h2, h3, h4⟩ := h
    obtain ⟨c', h5, h6⟩ := ht.event E c h4 h3
    exact ⟨E, c', h1, h2, h6, h5⟩
  simp only [h9, h11, h12, h13, if_false] at h ⊢
  exact h

theorem turn_refl (w W : World) : Turn w W W := ⟨fun _ _ _ _ h => h, fun _ c hc h => ⟨c, hc, h⟩, fun h => h, Below.refl _ _⟩

theorem turn_alloc {w W : World} (o : Obj) (h : w.heap.size ≤ W.heap.size) : Turn w W (W.alloc o) :=
  ⟨fun b _ _ _ hb => (Below.heap_alloc W o b (lt_of_block hb)).trans hb, fun b c hc hb => ⟨c, hc, (Below.heap_alloc W o b (lt_of_block hb)).trans hb⟩, fun hb => (Below.heap_alloc W o _ (lt_of_block hb)).trans hb, (Below.refl _ _).alloc h o⟩

theorem J2.put {w W W' : World} {grp id : ByteArray} {V n i : Nat} {c22 c23 : Array Value} {v : Value} {l : Array Bool} {a : Act} (h : J2 w grp id V n c22 c23 l a W) (hi : i < 14) (hun : l.getD i true = false) (ht : Turn w W W') (hv : ok2 w grp id V n c22 c23 i v W') :
    J2 w grp id V n c22 c23 (l.setIfInBounds i true) (a.put (some (dst2 i)) v) W' := by
  have hd : dst2 i = 4 ∨ 12 ≤ dst2 i := by unfold dst2; split <;> omega
  have hd2 : dst2 i < 49 := by unfold dst2; split <;> omega
  have keep : ∀ k : Nat, k ≠ dst2 i → (a.put (some (dst2 i)) v).tmps[k]? = a.tmps[k]? := fun k hk => by
    simp only [Act.put]
    rw [Array.getElem?_setIfInBounds_ne (Ne.symm hk)]
  have not14 : (l.setIfInBounds i true).getD 14 false = true → False := fun hl => by
    rw [getD_set_ne false (by omega)] at hl
    rw [h.all hl i hi] at hun
    cases hun
  refine ⟨by simp [h.sz], by simp [Act.put, h.tz], h.df, by rw [keep 0 (by omega)]; exact h.b0, by rw [keep 1 (by omega)]; exact h.b1, by rw [keep 2 (by omega)]; exact h.b2, by rw [keep 3 (by omega)]; exact h.b3,
    h.cg, h.ci, ht.res h.res, fun j hj hl => ?_, fun hl => (not14 hl).elim, fun hl => (not14 hl).elim, h.bel.trans ht.old⟩
  · by_cases e : j = i
    · subst e
      refine ⟨v, ?_, hv⟩
      simp only [Act.put]
      rw [Array.getElem?_setIfInBounds, if_pos rfl, if_pos (by rw [h.tz]; exact hd2)]
    · have hl' : l.getD j false = true := by rw [getD_set_ne false (Ne.symm e)] at hl; exact hl
      obtain ⟨u, hu, hok⟩ := h.slots j hj hl'
      refine ⟨u, ?_, ok2_mono hok ht⟩
      rw [keep (dst2 j) (by unfold dst2; split <;> split <;> omega)]
      exact hu

theorem wpOp_skip {P : Program} {ops : Array Oper} {Q : Exit → Act → World → Prop} {i : Nat} {o : Oper} {a : Act} {w w' : World} {K : Act → World → Prop} (hi : ops[i]? = some o) (hg : o.guard = none)
    (hr : (execOp a.eval o).run P w = .ok .skip w') (h : K (a.put o.dst undef) w') : wpOp P ops Q i K a w := by
  unfold wpOp
  simp only [hi, Region.wanted, hg, if_true]
  refine .inl ?_
  unfold Oper.wp
  rw [hr]
  exact h

theorem alloc48 (W : World) : (Instr.alloc 48 true (.tuple #[])).run Yba.prog W = .ok (.pointer (some ⟨W.heap.size, 0, none⟩)) (W.alloc (.cells evZero 48)) := by kernel_rfl
theorem build48 (grp id : ByteArray) (A I n : Nat) (W : World) : (Instr.build 48 #[(0, .int .i64 1), (2, .string grp), (3, .string id), (4, .slice (some ⟨A, 0, none⟩) n n), (12, .slice (some ⟨I, 0, none⟩) n n)]).run Yba.prog W = .ok (.agg (evArr grp id A I n)) W := by kernel_rfl
theorem field62_0 (V : Nat) (W : World) : (Instr.fieldAt 62 (.pointer (some ⟨V, 0, none⟩)) 0).run Yba.prog W = .ok (.pointer (some ⟨V, 0, none⟩)) W := by kernel_rfl
theorem field62_2 (V : Nat) (W : World) : (Instr.fieldAt 62 (.pointer (some ⟨V, 0, none⟩)) 2).run Yba.prog W = .ok (.pointer (some ⟨V, 2, none⟩)) W := by kernel_rfl
theorem load9 (W : World) (a : Addr) (v : Value) (h : W.cell? a = some v) : (Instr.loadAt 9 (.pointer (some a))).run Yba.prog W = .ok v W := by
  simp [Instr.loadAt, go_sem, h]
theorem size48 : (Yba.prog.info? 48).map (·.size) = some 17 := by kernel_rfl

theorem store48 (W : World) (E : Nat) (c : Array Value) (grp id : ByteArray) (A I n : Nat) (h : W.heap[E]? = some (.cells c 48)) (hc : c.size = 17) :
    (Instr.storeAt 48 (.pointer (some ⟨E, 0, none⟩)) (.agg (evArr grp id A I n))).run Yba.prog W = .ok () (W.setRow E (evArr grp id A I n)) := by
  have := run_storeVar_row (P := Yba.prog) W E 48 48 c (evArr grp id A I n) h (by rw [size48]; rfl) (by rw [hc]; rfl) (by simp [evArr, Value.oneCell'])
  simp [Instr.storeAt, Instr.sureAddr, this]

theorem turn_row {w W : World} {E : Nat} {c c' : Array Value} (h : W.heap[E]? = some (.cells c 48)) (hE : w.heap.size < E) (hc : c'.size = 17) : Turn w W (W.setRow E c') := by
  refine ⟨fun b c0 t ht hb => ?_, fun b c0 hc0 hb => ?_, fun hb => ?_, ⟨rfl, rfl, rfl, by simp [World.setRow], fun k hk => setRow_other W E k c' (by omega)⟩⟩
  · rw [setRow_other W E b c' (fun e => by rw [e, h] at hb; simp at hb; exact ht hb.2.symm)]
    exact hb
  · by_cases e : b = E
    · subst e
      exact ⟨c', hc, setRow_heap W b c c' 48 (0, 0) h⟩
    · exact ⟨c0, hc0, by rw [setRow_other W E b c' e]; exact hb⟩
  · rw [setRow_other W E _ c' (by omega)]
    exact hb

theorem evArr_one (grp id : ByteArray) (A I n : Nat) : (evArr grp id A I n).all (·.oneCell') = true := by simp [evArr, Value.oneCell']

theorem blk_setCell_ne {W : World} {b : Nat} {o : Obj} {a : Addr} {v : Value} (h : W.heap[b]? = some o) (hne : b ≠ a.block) : (W.setCell a v).heap[b]? = some o := by
  rw [Below.heap_setCell _ _ _ _ hne]
  exact h
theorem blk_setCell_at {W : World} {b : Nat} {c : Array Value} {t : TypeId} {z : Nat × Nat} {off : Nat} {v : Value} (h : W.heap[b]? = some (.cells c t z)) : (W.setCell ⟨b, off, none⟩ v).heap[b]? = some (.cells (c.setIfInBounds off v) t z) := by
  have hlt := lt_of_block h
  have h' : W.heap[b] = .cells c t z := by simpa [Array.getElem?_eq_getElem hlt] using h
  show (W.heap.modify b _)[b]? = _
  rw [Array.getElem?_eq_getElem (by simpa using hlt), Array.getElem_modify_self, h']
  rfl
theorem blk_alloc {w : World} {M : Nat} {o : Obj} (o' : Obj) (h : w.heap[M]? = some o) : (w.alloc o').heap[M]? = some o := by
  rw [Below.heap_alloc w o' M (lt_of_block h)]
  exact h

/-- What the caller of 'installed' learns. -/
structure Done (w W : World) (A I n : Nat) (nm : Nat → ByteArray) (inc : Nat → Int) : Prop where
  names : ∃ c, W.heap[A]? = some (.cells c 9) ∧ c.size = n ∧ ∀ j, j < n → c[j]? = some (.string (nm j))
  incs : ∃ c, W.heap[I]? = some (.cells c 25) ∧ c.size = n ∧ ∀ j, j < n → c[j]? = some (.int .u64 (inc j))
  lA : w.heap.size < A
  lI : w.heap.size < I
  bel : Below w.heap.size w W

theorem ev_done {w wr : World} {grp id : ByteArray} {E A I n : Nat} {nm : Nat → ByteArray} {inc : Nat → Int} {arr : Array Value} (h : Ev w wr grp id E A I n n nm inc) : Done w (wr.setRow w.heap.size arr) A I n nm inc := by
  obtain ⟨ca, hA, za, fa⟩ := h.names
  obtain ⟨ci, hI, zi, fi⟩ := h.incs
  have hlA := h.lA
  have hlI := h.lI
  refine ⟨⟨ca, by rw [setRow_other wr _ A arr (by omega)]; exact hA, za, fa⟩, ⟨ci, by rw [setRow_other wr _ I arr (by omega)]; exact hI, zi, fi⟩, hlA, hlI, ?_⟩
  exact h.bel.trans ⟨rfl, rfl, rfl, by simp [World.setRow], fun k hk => setRow_other wr _ k arr (by omega)⟩

/-- One member more. -/
theorem ev_step {w wr : World} {grp id : ByteArray} {E A I n i : Nat} {nm : Nat → ByteArray} {inc : Nat → Int} {o : Obj} (h : Ev w wr grp id E A I n i nm inc) (hi : i < n) :
    Ev w (((wr.setCell ⟨A, i, none⟩ (.string (nm i))).setCell ⟨I, i, none⟩ (.int .u64 (inc i))).alloc o).drew grp id E A I n (i + 1) nm inc := by
  obtain ⟨ca, hA, za, fa⟩ := h.names
  obtain ⟨ci, hI, zi, fi⟩ := h.incs
  have nAI : A ≠ I := fun e => by rw [e, hI] at hA; simp at hA
  have nEA : E ≠ A := fun e => by rw [← e, h.ev] at hA; simp at hA
  have nEI : E ≠ I := fun e => by rw [← e, h.ev] at hI; simp at hI
  have hlA := h.lA
  have hlI := h.lI
  have hb := h.bel.size
  have grow : ∀ (c : Array Value) (v : Value) (f : Nat → Value), c.size = n → (∀ j, j < i → c[j]? = some (f j)) → f i = v → ∀ j, j < i + 1 → (c.setIfInBounds i v)[j]? = some (f j) := by
    intro c v f hc hf hv j hj
    rw [Array.getElem?_setIfInBounds]
    by_cases e : i = j
    · subst e
      rw [if_pos rfl, if_pos (by omega), hv]
    · rw [if_neg e]
      exact hf j (by omega)
  refine ⟨?_, h.lE, ?_, ⟨ca.setIfInBounds i (.string (nm i)), ?_, by simp [za], grow ca _ (fun j => .string (nm j)) za fa rfl⟩, ⟨ci.setIfInBounds i (.int .u64 (inc i)), ?_, by simp [zi], grow ci _ (fun j => .int .u64 (inc j)) zi fi rfl⟩, hlA, hlI, ?_⟩
  · exact blk_alloc (w := (wr.setCell ⟨A, i, none⟩ (.string (nm i))).setCell ⟨I, i, none⟩ (.int .u64 (inc i))) o (blk_setCell_ne (blk_setCell_ne h.ev nEA) nEI)
  · exact blk_alloc (w := (wr.setCell ⟨A, i, none⟩ (.string (nm i))).setCell ⟨I, i, none⟩ (.int .u64 (inc i))) o (blk_setCell_ne (blk_setCell_ne h.res (show w.heap.size ≠ A by omega)) (show w.heap.size ≠ I by omega))
  · exact blk_alloc (w := (wr.setCell ⟨A, i, none⟩ (.string (nm i))).setCell ⟨I, i, none⟩ (.int .u64 (inc i))) o (blk_setCell_ne (blk_setCell_at hA) nAI)
  · exact blk_alloc (w := (wr.setCell ⟨A, i, none⟩ (.string (nm i))).setCell ⟨I, i, none⟩ (.int .u64 (inc i))) o (blk_setCell_at (blk_setCell_ne hI (Ne.symm nAI)))
  · have b1 : Below w.heap.size w ((wr.setCell ⟨A, i, none⟩ (.string (nm i))).setCell ⟨I, i, none⟩ (.int .u64 (inc i))) := (h.bel.setCell (show w.heap.size ≤ A by omega) _).setCell (show w.heap.size ≤ I by omega) _
    exact (b1.alloc (by simp [World.setCell]; omega) o).drew

theorem J2.get {w W : World} {grp id : ByteArray} {V n : Nat} {c22 c23 : Array Value} {l : Array Bool} {a : Act} (h : J2 w grp id V n c22 c23 l a W) (j : Nat) (hj : j < 14) (hl : l[j]?.getD false = true) :
    ∃ v, a.tmps[dst2 j]? = some v ∧ ok2 w grp id V n c22 c23 j v W := h.slots j hj (by simpa using hl)

theorem cases15 {i : Nat} (h : i < 15) : i = 0 ∨ i = 1 ∨ i = 2 ∨ i = 3 ∨ i = 4 ∨ i = 5 ∨ i = 6 ∨ i = 7 ∨ i = 8 ∨ i = 9 ∨ i = 10 ∨ i = 11 ∨ i = 12 ∨ i = 13 ∨ i = 14 := by omega

set_option maxRecDepth 100000 in
set_option maxHeartbeats 4000000 in
theorem installed_any (V M n : Nat) (grp id : ByteArray) (nm : Nat → ByteArray) (inc : Nat → Int) (w : World) (hn : n ≤ 1024) (h0 : w.cell? ⟨V, 0, none⟩ = some (.string grp)) (h2 : w.cell? ⟨V, 2, none⟩ = some (.string id)) (h3 : w.cell? ⟨V, 3, none⟩ = some (.slice (some ⟨M, 0, none⟩) n n)) (hM : M < w.heap.size)
    (hm : ∀ j, j < n → w.cell? ⟨M, j * 6, none⟩ = some (.string (nm j)) ∧ w.cell? ⟨M, j * 6 + 1, none⟩ = some (.int .u64 (inc j)) ∧ w.cell? ⟨M, j * 6 + 2, none⟩ = some (.int .u64 0) ∧ w.cell? ⟨M, j * 6 + 3, none⟩ = some (.int .u64 0) ∧ w.cell? ⟨M, j * 6 + 4, none⟩ = some (.pointer none) ∧ w.cell? ⟨M, j * 6 + 5, none⟩ = some (.int .u16 0)) :
    Calls Yba.prog 5 #[.pointer (some ⟨V, 0, none⟩)] w fun e w' => ∃ A I, e = .returned (.agg (evArr grp id A I n)) ∧ Done w w' A I n nm inc := by
  obtain ⟨c22, z22, r22⟩ := mk22 n hn
  obtain ⟨c23, z23, r23⟩ := mk23 n hn
  have hV : V < w.heap.size := World.block_lt_of_cell? w ⟨V, 0, none⟩ h0
  have HZ : Hid _ := And.intro z22 z23
  have HM : Hid _ := hm
  clear z22 z23 hm
  go_enter Yba.func5, Yba.ntmps5
  go_wp2
  go_cut [4] from 5 (fun s4 W => ∃ E A I, s4 = .pointer (some ⟨E, 0, none⟩) ∧ Ev w W grp id E A I n 0 nm inc)
  case first =>
    refine wp_region_any (by kernel_rfl) ?_
    refine wpAny_inv (J2 w grp id V n c22 c23) ?hb ?hs ?step ?fin _ _ _ _ ?start ?fuel
    case hb =>
      intro i o hi
      have hlt := lt_of_get hi
      rcases cases15 hlt with rfl | rfl | rfl | rfl | rfl | rfl | rfl | rfl | rfl | rfl | rfl | rfl | rfl | rfl | rfl <;> (simp at hi; subst hi; simp)
    case hs => intro l a w h; exact h.sz
    case fuel => decide
    case start =>
      refine ⟨by simp, by simp, rfl, rfl, rfl, rfl, rfl, h0, h2, heap_alloc_new w _, fun j hj hl => ?_, fun hl => by simp at hl, fun hl => by simp at hl, (Below.refl _ _).trans ⟨rfl, rfl, rfl, by simp, fun k hk => Below.heap_alloc w _ k hk⟩⟩
      rcases cases15 (show j < 15 by omega) with rfl | rfl | rfl | rfl | rfl | rfl | rfl | rfl | rfl | rfl | rfl | rfl | rfl | rfl | rfl <;> simp at hl
    case fin =>
      intro l a W hJ hall
      obtain ⟨E, A, I, t4, lE, hE, lA, hA, lI, hI⟩ := hJ.last (hall 14 (by simp))
      have hz := hJ.tz
      have b0 := hJ.b0
      have b1 := hJ.b1
      have b2 := hJ.b2
      have b3 := hJ.b3
      have hdf := hJ.df
      have hres := hJ.res
      have hbel := hJ.bel
      clear hJ hall
      obtain ⟨tmps, defers⟩ := a
      simp only at hdf hz b0 b1 b2 b3 t4
      obtain ⟨u0, u1, u2, u3, u4, u5, u6, u7, u8, u9, u10, u11, u12, u13, u14, u15, u16, u17, u18, u19, u20, u21, u22, u23, u24, u25, u26, u27, u28, u29, u30, u31, u32, u33, u34, u35, u36, u37, u38, u39, u40, u41, u42, u43, u44, u45, u46, u47, u48, ht⟩ := arr49' tmps hz
      subst hdf ht
      clear hz
      simp at b0 b1 b2 b3 t4
      subst b0 b1 b2 b3 t4
      have R : Hid (∃ E' A I, Value.pointer (some ⟨E, 0, none⟩) = .pointer (some ⟨E', 0, none⟩) ∧ Ev w W grp id E' A I n 0 nm inc) := ⟨E, A, I, rfl, hE, lE, hres, ⟨c22, hA, HZ.out.1, fun j hj => by omega⟩, ⟨c23, hI, HZ.out.2, fun j hj => by omega⟩, lA, lI, hbel⟩
      clear hE lE hres hA hI lA lI hbel
      go_wp2
      go_meet
      case rel => exact R.out
    case step =>
      intro l a W i o hJ hun hi hdep
      have hlt := lt_of_get hi
      have hcg : W.cell? ⟨V, 0, none⟩ = some (.string grp) := (hJ.bel.cell (p := ⟨V, 0, none⟩) hV).trans h0
      have hci : W.cell? ⟨V, 2, none⟩ = some (.string id) := (hJ.bel.cell (p := ⟨V, 2, none⟩) hV).trans h2
      have hlt0 : w.heap.size < W.heap.size := lt_of_block hJ.res
      rcases cases15 hlt with rfl | rfl | rfl | rfl | rfl | rfl | rfl | rfl | rfl | rfl | rfl | rfl | rfl | rfl | rfl <;> (simp at hi; subst hi; simp at hdep)
      case inl =>
        refine wpOp_value rfl rfl (v := .pointer (some ⟨V, 0, none⟩)) (w' := W) ?_ (hJ.put (i := 0) (by omega) hun (turn_refl w W) (by simp [ok2]))
        have := eval_tmp hJ.b0
        simp [execOp, this]
      case inr.inl =>
        obtain ⟨v, h1, h2⟩ := hJ.get 0 (by omega) (hdep rfl)
        have hv : v = .pointer (some ⟨V, 0, none⟩) := by simpa [ok2] using h2
        subst hv
        have h4 : a.tmps[12]? = some (.pointer (some ⟨V, 0, none⟩)) := h1
        refine wpOp_value rfl rfl (v := .pointer (some ⟨V, 0, none⟩)) (w' := W) ?_ (hJ.put (i := 1) (by omega) hun (turn_refl w W) (by simp [ok2]))
        simp [execOp, Act.eval, h4]
      case inr.inr.inl =>
        obtain ⟨v, h1, h2⟩ := hJ.get 1 (by omega) (hdep rfl)
        have hv : v = .pointer (some ⟨V, 0, none⟩) := by simpa [ok2] using h2
        subst hv
        have h4 : a.tmps[13]? = some (.pointer (some ⟨V, 0, none⟩)) := h1
        refine wpOp_value rfl rfl (v := .pointer (some ⟨V, 0, none⟩)) (w' := W) ?_ (hJ.put (i := 2) (by omega) hun (turn_refl w W) (by simp [ok2]))
        simp [execOp, Act.eval, h4, field62_0]
      case inr.inr.inr.inl =>
        obtain ⟨v, h1, h2⟩ := hJ.get 2 (by omega) (hdep rfl)
        have hv : v = .pointer (some ⟨V, 0, none⟩) := by simpa [ok2] using h2
        subst hv
        have h4 : a.tmps[14]? = some (.pointer (some ⟨V, 0, none⟩)) := h1
        refine wpOp_value rfl rfl (v := .string grp) (w' := W) ?_ (hJ.put (i := 3) (by omega) hun (turn_refl w W) (by simp [ok2]))
        simp [execOp, Act.eval, h4, load9 W _ _ hcg]
      case inr.inr.inr.inr.inl =>
        refine wpOp_value rfl rfl (v := .pointer (some ⟨V, 0, none⟩)) (w' := W) ?_ (hJ.put (i := 4) (by omega) hun (turn_refl w W) (by simp [ok2]))
        have := eval_tmp hJ.b0
        simp [execOp, this]
      case inr.inr.inr.inr.inr.inl =>
        obtain ⟨v, h1, h2⟩ := hJ.get 4 (by omega) (hdep rfl)
        have hv : v = .pointer (some ⟨V, 0, none⟩) := by simpa [ok2] using h2
        subst hv
        have h4 : a.tmps[16]? = some (.pointer (some ⟨V, 0, none⟩)) := h1
        refine wpOp_value rfl rfl (v := .pointer (some ⟨V, 0, none⟩)) (w' := W) ?_ (hJ.put (i := 5) (by omega) hun (turn_refl w W) (by simp [ok2]))
        simp [execOp, Act.eval, h4]
      case inr.inr.inr.inr.inr.inr.inl =>
        obtain ⟨v, h1, h2⟩ := hJ.get 5 (by omega) (hdep rfl)
        have hv : v = .pointer (some ⟨V, 0, none⟩) := by simpa [ok2] using h2
        subst hv
        have h4 : a.tmps[17]? = some (.pointer (some ⟨V, 0, none⟩)) := h1
        refine wpOp_value rfl rfl (v := .pointer (some ⟨V, 2, none⟩)) (w' := W) ?_ (hJ.put (i := 6) (by omega) hun (turn_refl w W) (by simp [ok2]))
        simp [execOp, Act.eval, h4, field62_2]
      case inr.inr.inr.inr.inr.inr.inr.inl =>
        obtain ⟨v, h1, h2⟩ := hJ.get 6 (by omega) (hdep rfl)
        have hv : v = .pointer (some ⟨V, 2, none⟩) := by simpa [ok2] using h2
        subst hv
        have h4 : a.tmps[18]? = some (.pointer (some ⟨V, 2, none⟩)) := h1
        refine wpOp_value rfl rfl (v := .string id) (w' := W) ?_ (hJ.put (i := 7) (by omega) hun (turn_refl w W) (by simp [ok2]))
        simp [execOp, Act.eval, h4, load9 W _ _ hci]
      case inr.inr.inr.inr.inr.inr.inr.inr.inl =>
        refine wpOp_value rfl rfl (v := .int .i64 (n : Int)) (w' := W) ?_ (hJ.put (i := 8) (by omega) hun (turn_refl w W) (by simp [ok2]))
        have := eval_tmp hJ.b3
        simp [execOp, this]
      case inr.inr.inr.inr.inr.inr.inr.inr.inr.inl =>
        obtain ⟨v, h1, h2⟩ := hJ.get 8 (by omega) (hdep rfl)
        have hv : v = .int .i64 (n : Int) := by simpa [ok2] using h2
        subst hv
        have h4 : a.tmps[20]? = some (.int .i64 (n : Int)) := h1
        refine wpOp_value rfl rfl (v := .slice (some ⟨W.heap.size, 0, none⟩) n n) (w' := W.alloc (.cells c22 9)) ?_ (hJ.put (i := 9) (by omega) hun (turn_alloc _ hJ.bel.size) (by simp only [ok2]; exact ⟨W.heap.size, rfl, hlt0, heap_alloc_new W _⟩))
        simp [execOp, Act.eval, h4, r22 W]
      case inr.inr.inr.inr.inr.inr.inr.inr.inr.inr.inl =>
        refine wpOp_value rfl rfl (v := .int .i64 (n : Int)) (w' := W) ?_ (hJ.put (i := 10) (by omega) hun (turn_refl w W) (by simp [ok2]))
        have := eval_tmp hJ.b3
        simp [execOp, this]
      case inr.inr.inr.inr.inr.inr.inr.inr.inr.inr.inr.inl =>
        obtain ⟨v, h1, h2⟩ := hJ.get 10 (by omega) (hdep rfl)
        have hv : v = .int .i64 (n : Int) := by simpa [ok2] using h2
        subst hv
        have h4 : a.tmps[22]? = some (.int .i64 (n : Int)) := h1
        refine wpOp_value rfl rfl (v := .slice (some ⟨W.heap.size, 0, none⟩) n n) (w' := W.alloc (.cells c23 25)) ?_ (hJ.put (i := 11) (by omega) hun (turn_alloc _ hJ.bel.size) (by simp only [ok2]; exact ⟨W.heap.size, rfl, hlt0, heap_alloc_new W _⟩))
        simp [execOp, Act.eval, h4, r23 W]
      case inr.inr.inr.inr.inr.inr.inr.inr.inr.inr.inr.inr.inl =>
        obtain ⟨d3, d7, d9, d11⟩ := hdep
        obtain ⟨v3, t3, e3⟩ := hJ.get 3 (by omega) (d3 rfl)
        obtain ⟨v7, t7, e7⟩ := hJ.get 7 (by omega) (d7 rfl)
        obtain ⟨v9, t9, e9⟩ := hJ.get 9 (by omega) (d9 rfl)
        obtain ⟨v11, t11, e11⟩ := hJ.get 11 (by omega) (d11 rfl)
        simp only [ok2, if_true] at e3 e7 e9 e11
        simp only [Nat.reduceEqDiff, if_false, or_self] at e7 e9 e11
        obtain ⟨A, e9, lA, hA⟩ := e9
        obtain ⟨I, e11, lI, hI⟩ := e11
        subst e3 e7 e9 e11
        have t3' : a.tmps[15]? = some (.string grp) := t3
        have t7' : a.tmps[19]? = some (.string id) := t7
        have t9' : a.tmps[21]? = some (.slice (some ⟨A, 0, none⟩) n n) := t9
        have t11' : a.tmps[23]? = some (.slice (some ⟨I, 0, none⟩) n n) := t11
        refine wpOp_value rfl rfl (v := .agg (evArr grp id A I n)) (w' := W) ?_ (hJ.put (i := 12) (by omega) hun (turn_refl w W) (by simp only [ok2]; exact ⟨A, I, rfl, lA, hA, lI, hI⟩))
        simp [execOp, Act.eval, t3', t7', t9', t11', build48]
      case inr.inr.inr.inr.inr.inr.inr.inr.inr.inr.inr.inr.inr.inl =>
        refine wpOp_value rfl rfl (v := .pointer (some ⟨W.heap.size, 0, none⟩)) (w' := W.alloc (.cells evZero 48)) ?_ (hJ.put (i := 13) (by omega) hun (turn_alloc _ hJ.bel.size) (by simp only [ok2]; exact ⟨W.heap.size, evZero, rfl, hlt0, heap_alloc_new W _, rfl⟩))
        simp [execOp, alloc48 W]
      case inr.inr.inr.inr.inr.inr.inr.inr.inr.inr.inr.inr.inr.inr =>
        obtain ⟨d13, d12, q0, q1, q2, q3, q4, q5, q6, q7, q8, q9, q10, q11, -, -⟩ := hdep
        obtain ⟨v13, t13, e13⟩ := hJ.get 13 (by omega) (d13 rfl)
        obtain ⟨v12, t12, e12⟩ := hJ.get 12 (by omega) (d12 rfl)
        simp only [ok2] at e13 e12
        simp only [Nat.reduceEqDiff, if_false, if_true, or_self] at e13 e12
        obtain ⟨E, c, e13, lE, hE, hc⟩ := e13
        obtain ⟨A, I, e12, lA, hA, lI, hI⟩ := e12
        subst e13 e12
        have t13' : a.tmps[4]? = some (.pointer (some ⟨E, 0, none⟩)) := t13
        have t12' : a.tmps[24]? = some (.agg (evArr grp id A I n)) := t12
        have tn : Turn w W (W.setRow E (evArr grp id A I n)) := turn_row hE lE rfl
        refine wpOp_skip rfl rfl (w' := W.setRow E (evArr grp id A I n)) ?_ ?_
        · simp [execOp, Act.eval, t13', t12', store48 W E c grp id A I n hE hc]
        · show J2 w grp id V n c22 c23 (l.setIfInBounds 14 true) a (W.setRow E (evArr grp id A I n))
          refine ⟨by simp [hJ.sz], hJ.tz, hJ.df, hJ.b0, hJ.b1, hJ.b2, hJ.b3, hJ.cg, hJ.ci, tn.res hJ.res, fun j hj hl => ?_, fun _ => ⟨E, A, I, t13', lE, setRow_heap W E c _ 48 (0, 0) hE, lA, tn.other _ _ _ (by decide) hA, lI, tn.other _ _ _ (by decide) hI⟩, fun _ j hj => ?_, hJ.bel.trans tn.old⟩
          · rw [getD_set_ne false (by omega)] at hl
            obtain ⟨u, hu, hok⟩ := hJ.slots j hj hl
            exact ⟨u, hu, ok2_mono hok tn⟩
          · rw [getD_set_ne true (by omega)]
            have hs := hJ.sz
            have get : ∀ k : Nat, k < 15 → l[k]?.getD false = true → l.getD k true = true := fun k hk h => by
              have hkl : k < l.size := by omega
              simp [hkl] at h ⊢
              exact h
            rcases (show j = 0 ∨ j = 1 ∨ j = 2 ∨ j = 3 ∨ j = 4 ∨ j = 5 ∨ j = 6 ∨ j = 7 ∨ j = 8 ∨ j = 9 ∨ j = 10 ∨ j = 11 ∨ j = 12 ∨ j = 13 by omega) with rfl | rfl | rfl | rfl | rfl | rfl | rfl | rfl | rfl | rfl | rfl | rfl | rfl | rfl
            · exact get 0 (by omega) (q0 rfl)
            · exact get 1 (by omega) (q1 rfl)
            · exact get 2 (by omega) (q2 rfl)
            · exact get 3 (by omega) (q3 rfl)
            · exact get 4 (by omega) (q4 rfl)
            · exact get 5 (by omega) (q5 rfl)
            · exact get 6 (by omega) (q6 rfl)
            · exact get 7 (by omega) (q7 rfl)
            · exact get 8 (by omega) (q8 rfl)
            · exact get 9 (by omega) (q9 rfl)
            · exact get 10 (by omega) (q10 rfl)
            · exact get 11 (by omega) (q11 rfl)
            · exact get 12 (by omega) (d12 rfl)
            · exact get 13 (by omega) (d13 rfl)
  case rest =>
    obtain ⟨E, A, I, rfl, hev⟩ := hcut
    have c3 : wc.cell? ⟨V, 3, none⟩ = some (.slice (some ⟨M, 0, none⟩) n n) := (hev.bel.cell (p := ⟨V, 3, none⟩) hV).trans h3
    have HEV : Hid _ := hev
    clear hev h0 h2 h3 r22 r23 HZ
    go_wp2
    go_loopw [30] (fun t wr => ∃ i : Nat, i ≤ n ∧ t = .int .i64 i ∧ Ev w wr grp id E A I n i nm inc) (fun t _ => n - (intOf t).toNat)
    case atStart => exact ⟨0, Nat.zero_le _, rfl, HEV.out⟩
    case round =>
      clear HEV c3
      obtain ⟨i, hin, rfl, hev⟩ := hrel
      by_cases hlt : i < n
      · obtain ⟨m0, m1, m2, m3, m4, m5⟩ := HM.out i hlt
        have q0 := (hev.bel.cell (p := ⟨M, i * 6, none⟩) hM).trans m0
        have q1 := (hev.bel.cell (p := ⟨M, i * 6 + 1, none⟩) hM).trans m1
        have q2 := (hev.bel.cell (p := ⟨M, i * 6 + 2, none⟩) hM).trans m2
        have q3 := (hev.bel.cell (p := ⟨M, i * 6 + 3, none⟩) hM).trans m3
        have q4 := (hev.bel.cell (p := ⟨M, i * 6 + 4, none⟩) hM).trans m4
        have q5 := (hev.bel.cell (p := ⟨M, i * 6 + 5, none⟩) hM).trans m5
        have g6 : wr.cell? ⟨E, 6, none⟩ = some (.slice (some ⟨A, 0, none⟩) n n) := by simp [World.cell?, hev.ev, evArr]
        have g16 : wr.cell? ⟨E, 16, none⟩ = some (.slice (some ⟨I, 0, none⟩) n n) := by simp [World.cell?, hev.ev, evArr]
        have lE := lt_of_block hev.ev
        obtain ⟨ca, hA, za, -⟩ := hev.names
        obtain ⟨ci, hI, zi, -⟩ := hev.incs
        obtain ⟨ua, hua⟩ : ∃ u, wr.cell? ⟨A, i, none⟩ = some u := ⟨_, by simp only [World.cell?, hA]; exact Array.getElem?_eq_getElem (by omega)⟩
        obtain ⟨ui, hui⟩ : ∃ u, wr.cell? ⟨I, i, none⟩ = some u := ⟨_, by simp only [World.cell?, hI]; exact Array.getElem?_eq_getElem (by omega)⟩
        have fa : wr.frozen? ⟨A, i, none⟩ = false := by simp [World.frozen?, hA]
        have fi : wr.frozen? ⟨I, i, none⟩ = false := by simp [World.frozen?, hI]
        have lA := lt_of_block hA
        have lI := lt_of_block hI
        have nAI : ¬ A = I := fun e => by rw [e, hI] at hA; simp at hA
        have nIA : ¬ I = A := fun e => nAI e.symm
        have nEA : ¬ E = A := fun e => by rw [← e, hev.ev] at hA; simp at hA
        have nEI : ¬ E = I := fun e => by rw [← e, hev.ev] at hI; simp at hI
        have hi0 : (0 : Int) ≤ (i : Int) := by omega
        have hi1 : (i : Int) < (n : Int) := by omega
        have HEV : Hid _ := hev
        clear hev m0 m1 m2 m3 m4 m5 hA hI za zi
        have R : Hid (∀ o, Ev w (((wr.setCell ⟨A, i, none⟩ (.string (nm i))).setCell ⟨I, i, none⟩ (.int .u64 (inc i))).alloc o).drew grp id E A I n (i + 1) nm inc) := fun o => ev_step HEV.out hlt
        clear HEV
        go_wp2
        go_region
        go_wp2
        go_roundw
        case rel => exact ⟨i + 1, by omega, by go_num, R.out _⟩
        case measure => simp [intOf]; omega
      · have e : i = n := by omega
        subst e
        have hE := hev.ev
        have hR := hev.res
        have HEV : Hid _ := hev
        clear hev
        go_wp2_with (first | (refine wpList_load_row rfl 48 (.tmp 4) rfl E rfl 48 _ (0, 0) _ hE Yba.underlying48 rfl size48 ?_) | (refine wpList_store_row rfl 48 (.tmp 2) (.tmp 48) rfl w.heap.size (evArr grp id A I i) rfl rfl 48 evZero hR size48 rfl (evArr_one grp id A I i) ?_))
        exact bodyPost_ret (v := .agg (evArr grp id A I i)) (results_cell_row Yba.results5 _ _ w.heap.size 48 (evArr grp id A I i) (0, 0) _ rfl (setRow_heap wr w.heap.size _ _ 48 (0, 0) hR) Yba.underlying48 rfl size48) rfl ⟨A, I, rfl, ev_done HEV.out⟩

end Go.Proofs.Ybulkbcym
