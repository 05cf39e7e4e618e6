import Derived.Test.YbulkbcymBase
namespace Go.Proofs.Ybulkbcym
open Go.RowKit

theorem make_any (t e : TypeId) (i : TypeInfo) (z : Value) (ht : Yba.prog.underlying t = some (.slice e)) (hi : Yba.prog.info? e = some i) (hz : i.zero = some z) (hb : i.bytes ≤ 64) (n : Nat) (hn : n ≤ 1024) :
    ∃ c : Array Value, ∀ W : World, (Instr.makeSlice t (.int .i64 (n : Int)) (.int .i64 (n : Int))).run Yba.prog W = .ok (.slice (some ⟨W.heap.size, 0, none⟩) n n) (W.alloc (.cells c e)) := by
  refine ⟨madeCells z.cells (n * i.size), fun W => ?_⟩
  have hb' : (i.bytes : Int) * (n : Int) ≤ 281474976710656 := by
    have h1 : i.bytes * n ≤ 64 * 1024 := Nat.mul_le_mul hb hn
    have h2 : ((i.bytes * n : Nat) : Int) ≤ 281474976710656 := by omega
    rwa [Int.natCast_mul] at h2
  have hr := run_make (P := Yba.prog) W t e i z ht hi hz .i64 .i64 n n (by omega) (Int.le_refl _) hb' (by omega)
  simp only [Int.toNat_natCast] at hr
  exact hr

/-- What the law reads of a view. -/
def ArrOk (grp id : ByteArray) (ms : Value) (arr : Array Value) : Prop := arr[0]? = some (.string grp) ∧ arr[2]? = some (.string id) ∧ arr[3]? = some ms

/-- What each operation of newView's literal has left in its slot: where it hangs on no memory. -/
def okv (grp id : ByteArray) (ms : Value) (me : Int) (n : Nat) (j : Nat) (v : Value) : Prop :=
  if j = 0 then v = .string grp else if j = 1 then v = .int .u8 0 else if j = 2 then v = .string id else if j = 3 then v = ms else if j = 4 then v = .int .i64 me
  else if j = 7 ∨ j = 9 ∨ j = 11 ∨ j = 13 then v = .int .i64 (n : Int)
  else if j = 8 ∨ j = 10 ∨ j = 12 ∨ j = 14 then ∃ x c, v = .slice x c c
  else if j = 18 then ∃ arr, v = .agg arr ∧ ArrOk grp id ms arr
  else v = .slice none 0 0

def ok (w0 : World) (grp id : ByteArray) (ms : Value) (me : Int) (n : Nat) (j : Nat) (v : Value) (w : World) : Prop :=
  if j = 19 ∨ j = 20 then ∃ V arr, v = .pointer (some ⟨V, 0, none⟩) ∧ w0.heap.size ≤ V ∧ w.heap[V]? = some (.cells arr 62) ∧ ArrOk grp id ms arr
  else okv grp id ms me n j v

def dst (j : Nat) : Nat := if j = 20 then 12 else 16 + j

structure J (w0 : World) (grp id : ByteArray) (ms : Value) (me : Int) (n : Nat) (l : Array Bool) (a : Act) (w : World) : Prop where
  sz : l.size = 21
  tz : a.tmps.size = 36
  df : a.defers = []
  b0 : a.tmps[0]? = some (.string grp)
  b1 : a.tmps[1]? = some (.string id)
  b2 : a.tmps[2]? = some (.int .u8 0)
  b3 : a.tmps[3]? = some ms
  b4 : a.tmps[4]? = some (.slice none 0 0)
  b5 : a.tmps[5]? = some (.int .i64 me)
  b13 : a.tmps[13]? = some (.int .i64 (n : Int))
  slots : ∀ j, j < 21 → l.getD j false = true → ∃ v, a.tmps[dst j]? = some v ∧ ok w0 grp id ms me n j v w
  gr : w0.grownBy w none

theorem ok_mono {w0 w w' : World} {grp id : ByteArray} {ms : Value} {me : Int} {n j : Nat} {v : Value} (h : ok w0 grp id ms me n j v w) (hg : w.grownBy w' none) : ok w0 grp id ms me n j v w' := by
  unfold ok at *
  by_cases e : j = 19 ∨ j = 20
  · rw [if_pos e] at h ⊢
    obtain ⟨V, arr, h1, h2, h3, h4⟩ := h
    exact ⟨V, arr, h1, h2, by rw [hg.block V (lt_of_block h3) (by simp)]; exact h3, h4⟩
  · rw [if_neg e] at h ⊢
    exact h

theorem J.put {w0 w w' : World} {grp id : ByteArray} {ms : Value} {me : Int} {n i : Nat} {v : Value} {l : Array Bool} {a : Act} (h : J w0 grp id ms me n l a w) (hi : i < 21) (hg : w.grownBy w' none) (hv : ok w0 grp id ms me n i v w') :
    J w0 grp id ms me n (l.setIfInBounds i true) (a.put (some (dst i)) v) w' := by
  have hd : dst i = 12 ∨ 16 ≤ dst i := by unfold dst; split <;> omega
  have hd2 : dst i < 36 := by unfold dst; split <;> omega
  have keep : ∀ k : Nat, k ≠ dst i → (a.put (some (dst i)) v).tmps[k]? = a.tmps[k]? := fun k hk => by
    simp only [Act.put]
    rw [Array.getElem?_setIfInBounds_ne (Ne.symm hk)]
  refine ⟨by simp [h.sz], by simp [Act.put, h.tz], h.df, by rw [keep 0 (by omega)]; exact h.b0, by rw [keep 1 (by omega)]; exact h.b1, by rw [keep 2 (by omega)]; exact h.b2, by rw [keep 3 (by omega)]; exact h.b3,
    by rw [keep 4 (by omega)]; exact h.b4, by rw [keep 5 (by omega)]; exact h.b5, by rw [keep 13 (by omega)]; exact h.b13, fun j hj hl => ?_, h.gr.trans hg⟩
  by_cases e : j = i
  · subst e
    refine ⟨v, ?_, hv⟩
    simp only [Act.put]
    rw [Array.getElem?_setIfInBounds, if_pos rfl, if_pos (by rw [h.tz]; exact hd2)]
  · have hl' : l.getD j false = true := by rw [getD_set_ne false (Ne.symm e)] at hl; exact hl
    obtain ⟨u, hu, hok⟩ := h.slots j hj hl'
    refine ⟨u, ?_, ok_mono hok hg⟩
    rw [keep (dst j) (by unfold dst; split <;> split <;> omega)]
    exact hu

theorem info90 : (Yba.prog.info? 90).map (fun i => (i.zero, i.size, i.bytes)) = some (some (.map none), 1, 8) := by kernel_rfl
theorem mk51 (n : Nat) (hn : n ≤ 1024) : ∃ c : Array Value, ∀ W : World, (Instr.makeSlice 51 (.int .i64 (n : Int)) (.int .i64 (n : Int))).run Yba.prog W = .ok (.slice (some ⟨W.heap.size, 0, none⟩) n n) (W.alloc (.cells c 90)) := by
  obtain ⟨i, hi, hz0, hz1, hz2⟩ := info_parts info90
  exact make_any 51 90 i _ Yba.underlying51 hi hz0 (by omega) n hn
theorem info91 : (Yba.prog.info? 91).map (fun i => (i.zero, i.size, i.bytes)) = some (some (.map none), 1, 8) := by kernel_rfl
theorem mk52 (n : Nat) (hn : n ≤ 1024) : ∃ c : Array Value, ∀ W : World, (Instr.makeSlice 52 (.int .i64 (n : Int)) (.int .i64 (n : Int))).run Yba.prog W = .ok (.slice (some ⟨W.heap.size, 0, none⟩) n n) (W.alloc (.cells c 91)) := by
  obtain ⟨i, hi, hz0, hz1, hz2⟩ := info_parts info91
  exact make_any 52 91 i _ Yba.underlying52 hi hz0 (by omega) n hn
theorem info92 : (Yba.prog.info? 92).map (fun i => (i.zero, i.size, i.bytes)) = some (some (.slice none 0 0), 1, 24) := by kernel_rfl
theorem mk53 (n : Nat) (hn : n ≤ 1024) : ∃ c : Array Value, ∀ W : World, (Instr.makeSlice 53 (.int .i64 (n : Int)) (.int .i64 (n : Int))).run Yba.prog W = .ok (.slice (some ⟨W.heap.size, 0, none⟩) n n) (W.alloc (.cells c 92)) := by
  obtain ⟨i, hi, hz0, hz1, hz2⟩ := info_parts info92
  exact make_any 53 92 i _ Yba.underlying53 hi hz0 (by omega) n hn
theorem info93 : (Yba.prog.info? 93).map (fun i => (i.zero, i.size, i.bytes)) = some (some (.slice none 0 0), 1, 24) := by kernel_rfl
theorem mk54 (n : Nat) (hn : n ≤ 1024) : ∃ c : Array Value, ∀ W : World, (Instr.makeSlice 54 (.int .i64 (n : Int)) (.int .i64 (n : Int))).run Yba.prog W = .ok (.slice (some ⟨W.heap.size, 0, none⟩) n n) (W.alloc (.cells c 93)) := by
  obtain ⟨i, hi, hz0, hz1, hz2⟩ := info_parts info93
  exact make_any 54 93 i _ Yba.underlying54 hi hz0 (by omega) n hn

theorem eval_tmp {a : Act} {k : Nat} {v : Value} (h : a.tmps[k]? = some v) : a.eval (.tmp k) = v := by
  simp [Act.eval, h]
theorem grown_refl (w : World) : w.grownBy w none := ⟨rfl, rfl, rfl, Nat.le_refl _, fun _ _ _ => rfl⟩

theorem J.get {w0 w : World} {grp id : ByteArray} {ms : Value} {me : Int} {n : Nat} {l : Array Bool} {a : Act} (h : J w0 grp id ms me n l a w) (j : Nat) (hj : j < 21) (hl : l[j]?.getD false = true) :
    ∃ v, a.tmps[dst j]? = some v ∧ ok w0 grp id ms me n j v w := h.slots j hj (by simpa using hl)

def arrOf (r : Result Value) : Array Value := match r with | .ok (.agg a) _ => a | _ => #[]

theorem build62 (grp id : ByteArray) (ma x8 x10 x12 x14 : Option Addr) (n mc c8 c10 c12 c14 : Nat) (me : Int) (W : World) :
    ∃ arr, (Instr.build 62 #[(0, .string grp), (1, .int .u8 0), (2, .string id), (3, .slice ma n mc), (4, .int .i64 me), (5, .slice none 0 0), (6, .slice x8 c8 c8), (7, .slice x10 c10 c10), (8, .slice x12 c12 c12), (9, .slice x14 c14 c14), (10, .slice none 0 0), (11, .slice none 0 0), (27, .int .i64 (-1))]).run Yba.prog W = .ok (.agg arr) W ∧ ArrOk grp id (.slice ma n mc) arr :=
  ⟨arrOf ((Instr.build 62 #[(0, .string grp), (1, .int .u8 0), (2, .string id), (3, .slice ma n mc), (4, .int .i64 me), (5, .slice none 0 0), (6, .slice x8 c8 c8), (7, .slice x10 c10 c10), (8, .slice x12 c12 c12), (9, .slice x14 c14 c14), (10, .slice none 0 0), (11, .slice none 0 0), (27, .int .i64 (-1))]).run Yba.prog W), by kernel_rfl, by kernel_rfl, by kernel_rfl, by kernel_rfl⟩

theorem cases21 {i : Nat} (h : i < 21) : i = 0 ∨ i = 1 ∨ i = 2 ∨ i = 3 ∨ i = 4 ∨ i = 5 ∨ i = 6 ∨ i = 7 ∨ i = 8 ∨ i = 9 ∨ i = 10 ∨ i = 11 ∨ i = 12 ∨ i = 13 ∨ i = 14 ∨ i = 15 ∨ i = 16 ∨ i = 17 ∨ i = 18 ∨ i = 19 ∨ i = 20 := by omega

theorem lt_of_get {α : Type} {l : Array α} {i : Nat} {o : α} (h : l[i]? = some o) : i < l.size := (Array.getElem?_eq_some_iff.1 h).1

set_option maxRecDepth 100000 in
set_option maxHeartbeats 4000000 in
theorem newView_any (grp id : ByteArray) (ma : Option Addr) (n mc : Nat) (me : Int) (w : World) (hn : n ≤ 1024) :
    Calls Yba.prog 4 #[.string grp, .string id, .int .u8 0, .slice ma n mc, .slice none 0 0, .int .i64 me] w fun e w' => ∃ V arr, e = .returned (.pointer (some ⟨V, 0, none⟩)) ∧ w.heap.size ≤ V ∧ w'.heap[V]? = some (.cells arr 62) ∧ ArrOk grp id (.slice ma n mc) arr ∧ w.grownBy w' none := by
  go_enter Yba.func4, Yba.ntmps4
  go_wp2
  refine wp_region_any (by kernel_rfl) ?_
  refine wpAny_inv (J w grp id (.slice ma n mc) me n) ?hb ?hs ?step ?fin _ _ _ _ ?start ?fuel
  case hb =>
    intro i o hi
    have hlt := lt_of_get hi
    rcases cases21 hlt with rfl | rfl | rfl | rfl | rfl | rfl | rfl | rfl | rfl | rfl | rfl | rfl | rfl | rfl | rfl | rfl | rfl | rfl | rfl | rfl | rfl <;> (simp at hi; subst hi; simp)
  case hs => intro l a w h; exact h.sz
  case fuel => decide
  case start =>
    refine ⟨by simp, by simp, rfl, rfl, rfl, rfl, rfl, rfl, rfl, rfl, fun j hj hl => ?_, ⟨rfl, rfl, rfl, Nat.le_refl _, fun _ _ _ => rfl⟩⟩
    rcases cases21 hj with rfl | rfl | rfl | rfl | rfl | rfl | rfl | rfl | rfl | rfl | rfl | rfl | rfl | rfl | rfl | rfl | rfl | rfl | rfl | rfl | rfl <;> simp at hl
  case fin =>
    intro l a w' hJ hall
    obtain ⟨v, t20, e20⟩ := hJ.slots 20 (by omega) (hall 20 (by simp))
    simp [ok] at e20
    obtain ⟨V, rfl, hV, arr, harr, hok⟩ := e20
    have h12 : a.tmps[12]? = some (.pointer (some ⟨V, 0, none⟩)) := t20
    have hdf := hJ.df
    have hgr := hJ.gr
    obtain ⟨tmps, defers⟩ := a
    simp only at hdf h12
    subst hdf
    clear hJ hall
    go_wp2
    exact bodyPost_ret (v := .pointer (some ⟨V, 0, none⟩)) (by simp [results, Yba.results4, go_sem, h12]) rfl ⟨V, rfl, hV, arr, harr, hok, hgr⟩
  case step =>
    intro l a w' i o hJ _ hi hdep
    have hlt := lt_of_get hi
    rcases cases21 hlt with rfl | rfl | rfl | rfl | rfl | rfl | rfl | rfl | rfl | rfl | rfl | rfl | rfl | rfl | rfl | rfl | rfl | rfl | rfl | rfl | rfl <;> (simp at hi; subst hi; simp at hdep)
    case inl =>
      refine wpOp_value rfl rfl (v := .string grp) (w' := w') ?_ (hJ.put (i := 0) (by omega) (grown_refl w') (by simp [ok, okv]))
      have := eval_tmp hJ.b0
      simp [execOp, this]
    case inr.inl =>
      refine wpOp_value rfl rfl (v := .int .u8 0) (w' := w') ?_ (hJ.put (i := 1) (by omega) (grown_refl w') (by simp [ok, okv]))
      have := eval_tmp hJ.b2
      simp [execOp, this]
    case inr.inr.inl =>
      refine wpOp_value rfl rfl (v := .string id) (w' := w') ?_ (hJ.put (i := 2) (by omega) (grown_refl w') (by simp [ok, okv]))
      have := eval_tmp hJ.b1
      simp [execOp, this]
    case inr.inr.inr.inl =>
      refine wpOp_value rfl rfl (v := .slice ma n mc) (w' := w') ?_ (hJ.put (i := 3) (by omega) (grown_refl w') (by simp [ok, okv]))
      have := eval_tmp hJ.b3
      simp [execOp, this]
    case inr.inr.inr.inr.inl =>
      refine wpOp_value rfl rfl (v := .int .i64 me) (w' := w') ?_ (hJ.put (i := 4) (by omega) (grown_refl w') (by simp [ok, okv]))
      have := eval_tmp hJ.b5
      simp [execOp, this]
    case inr.inr.inr.inr.inr.inl =>
      refine wpOp_value rfl rfl (v := .slice none 0 0) (w' := w') ?_ (hJ.put (i := 5) (by omega) (grown_refl w') (by simp [ok, okv]))
      have := eval_tmp hJ.b4
      simp [execOp, this]
    case inr.inr.inr.inr.inr.inr.inl =>
      obtain ⟨v, h1, h2⟩ := hJ.get 5 (by omega) (hdep rfl)
      have hv : v = .slice none 0 0 := by simpa [ok, okv] using h2
      subst hv
      refine wpOp_call (f := 7) (args := #[.slice none 0 0]) (v := .slice none 0 0) rfl rfl ?_ (clone_nil w') (hJ.put (i := 6) (by omega) (grown_refl w') (by simp [ok, okv]))
      have h3 : a.tmps[21]? = some (.slice none 0 0) := h1
      simp [execOp, go_sem, h3]
    case inr.inr.inr.inr.inr.inr.inr.inl =>
      refine wpOp_value rfl rfl (v := .int .i64 (n : Int)) (w' := w') ?_ (hJ.put (i := 7) (by omega) (grown_refl w') (by simp [ok, okv]))
      have := eval_tmp hJ.b13
      simp [execOp, this]
    case inr.inr.inr.inr.inr.inr.inr.inr.inl =>
      obtain ⟨v, h1, h2⟩ := hJ.get 7 (by omega) (hdep rfl)
      have hv : v = .int .i64 (n : Int) := by simpa [ok, okv] using h2
      subst hv
      have := eval_tmp h1
      simp [dst] at this
      obtain ⟨c, hc⟩ := mk51 n hn
      refine wpOp_value rfl rfl (v := .slice (some ⟨w'.heap.size, 0, none⟩) n n) (w' := w'.alloc (.cells c 90)) ?_ (hJ.put (i := 8) (by omega) (World.grownBy_alloc w' _ _) (by simp [ok, okv]))
      simp [execOp, this, hc]
    case inr.inr.inr.inr.inr.inr.inr.inr.inr.inl =>
      refine wpOp_value rfl rfl (v := .int .i64 (n : Int)) (w' := w') ?_ (hJ.put (i := 9) (by omega) (grown_refl w') (by simp [ok, okv]))
      have := eval_tmp hJ.b13
      simp [execOp, this]
    case inr.inr.inr.inr.inr.inr.inr.inr.inr.inr.inl =>
      obtain ⟨v, h1, h2⟩ := hJ.get 9 (by omega) (hdep rfl)
      have hv : v = .int .i64 (n : Int) := by simpa [ok, okv] using h2
      subst hv
      have := eval_tmp h1
      simp [dst] at this
      obtain ⟨c, hc⟩ := mk52 n hn
      refine wpOp_value rfl rfl (v := .slice (some ⟨w'.heap.size, 0, none⟩) n n) (w' := w'.alloc (.cells c 91)) ?_ (hJ.put (i := 10) (by omega) (World.grownBy_alloc w' _ _) (by simp [ok, okv]))
      simp [execOp, this, hc]
    case inr.inr.inr.inr.inr.inr.inr.inr.inr.inr.inr.inl =>
      refine wpOp_value rfl rfl (v := .int .i64 (n : Int)) (w' := w') ?_ (hJ.put (i := 11) (by omega) (grown_refl w') (by simp [ok, okv]))
      have := eval_tmp hJ.b13
      simp [execOp, this]
    case inr.inr.inr.inr.inr.inr.inr.inr.inr.inr.inr.inr.inl =>
      obtain ⟨v, h1, h2⟩ := hJ.get 11 (by omega) (hdep rfl)
      have hv : v = .int .i64 (n : Int) := by simpa [ok, okv] using h2
      subst hv
      have := eval_tmp h1
      simp [dst] at this
      obtain ⟨c, hc⟩ := mk53 n hn
      refine wpOp_value rfl rfl (v := .slice (some ⟨w'.heap.size, 0, none⟩) n n) (w' := w'.alloc (.cells c 92)) ?_ (hJ.put (i := 12) (by omega) (World.grownBy_alloc w' _ _) (by simp [ok, okv]))
      simp [execOp, this, hc]
    case inr.inr.inr.inr.inr.inr.inr.inr.inr.inr.inr.inr.inr.inl =>
      refine wpOp_value rfl rfl (v := .int .i64 (n : Int)) (w' := w') ?_ (hJ.put (i := 13) (by omega) (grown_refl w') (by simp [ok, okv]))
      have := eval_tmp hJ.b13
      simp [execOp, this]
    case inr.inr.inr.inr.inr.inr.inr.inr.inr.inr.inr.inr.inr.inr.inl =>
      obtain ⟨v, h1, h2⟩ := hJ.get 13 (by omega) (hdep rfl)
      have hv : v = .int .i64 (n : Int) := by simpa [ok, okv] using h2
      subst hv
      have := eval_tmp h1
      simp [dst] at this
      obtain ⟨c, hc⟩ := mk54 n hn
      refine wpOp_value rfl rfl (v := .slice (some ⟨w'.heap.size, 0, none⟩) n n) (w' := w'.alloc (.cells c 93)) ?_ (hJ.put (i := 14) (by omega) (World.grownBy_alloc w' _ _) (by simp [ok, okv]))
      simp [execOp, this, hc]
    case inr.inr.inr.inr.inr.inr.inr.inr.inr.inr.inr.inr.inr.inr.inr.inl =>
      refine wpOp_value rfl rfl (v := .slice none 0 0) (w' := w') ?_ (hJ.put (i := 15) (by omega) (grown_refl w') (by simp [ok, okv]))
      have := eval_tmp hJ.b4
      simp [execOp, this]
    case inr.inr.inr.inr.inr.inr.inr.inr.inr.inr.inr.inr.inr.inr.inr.inr.inl =>
      obtain ⟨v, h1, h2⟩ := hJ.get 15 (by omega) (hdep.1 rfl)
      have hv : v = .slice none 0 0 := by simpa [ok, okv] using h2
      subst hv
      refine wpOp_call (f := 7) (args := #[.slice none 0 0]) (v := .slice none 0 0) rfl rfl ?_ (clone_nil w') (hJ.put (i := 16) (by omega) (grown_refl w') (by simp [ok, okv]))
      have h3 : a.tmps[31]? = some (.slice none 0 0) := h1
      simp [execOp, go_sem, h3]
    case inr.inr.inr.inr.inr.inr.inr.inr.inr.inr.inr.inr.inr.inr.inr.inr.inr.inl =>
      refine wpOp_value rfl rfl (v := .slice none 0 0) (w' := w') ?_ (hJ.put (i := 17) (by omega) (grown_refl w') (by simp [ok, okv]))
      have := eval_tmp hJ.b4
      simp [execOp, this]
    case inr.inr.inr.inr.inr.inr.inr.inr.inr.inr.inr.inr.inr.inr.inr.inr.inr.inr.inl =>
      obtain ⟨d0, d1, d2, d3, d4, d6, d8, d10, d12, d14, d16, d17⟩ := hdep
      obtain ⟨v0, t0, e0⟩ := hJ.get 0 (by omega) (d0 rfl)
      obtain ⟨v1, t1, e1⟩ := hJ.get 1 (by omega) (d1 rfl)
      obtain ⟨v2, t2, e2⟩ := hJ.get 2 (by omega) (d2 rfl)
      obtain ⟨v3, t3, e3⟩ := hJ.get 3 (by omega) (d3 rfl)
      obtain ⟨v4, t4, e4⟩ := hJ.get 4 (by omega) (d4 rfl)
      obtain ⟨v6, t6, e6⟩ := hJ.get 6 (by omega) (d6 rfl)
      obtain ⟨v8, t8, e8⟩ := hJ.get 8 (by omega) (d8 rfl)
      obtain ⟨v10, t10, e10⟩ := hJ.get 10 (by omega) (d10 rfl)
      obtain ⟨v12, t12, e12⟩ := hJ.get 12 (by omega) (d12 rfl)
      obtain ⟨v14, t14, e14⟩ := hJ.get 14 (by omega) (d14 rfl)
      obtain ⟨v16, t16, e16⟩ := hJ.get 16 (by omega) (d16 rfl)
      obtain ⟨v17, t17, e17⟩ := hJ.get 17 (by omega) (d17 rfl)
      simp [ok, okv] at e0 e1 e2 e3 e4 e6 e8 e10 e12 e14 e16 e17
      obtain ⟨x8, c8, e8⟩ := e8
      obtain ⟨x10, c10, e10⟩ := e10
      obtain ⟨x12, c12, e12⟩ := e12
      obtain ⟨x14, c14, e14⟩ := e14
      subst e0 e1 e2 e3 e4 e6 e8 e10 e12 e14 e16 e17
      simp [dst] at t0 t1 t2 t3 t4 t6 t8 t10 t12 t14 t16 t17
      obtain ⟨arr, hrun, harr⟩ := build62 grp id ma x8 x10 x12 x14 n mc c8 c10 c12 c14 me w'
      refine wpOp_value rfl rfl (v := .agg arr) (w' := w') ?_ (hJ.put (i := 18) (by omega) (grown_refl w') ?_)
      · simp [execOp, Act.eval, t0, t1, t2, t3, t4, t6, t8, t10, t12, t14, t16, t17, hrun]
      · simp only [ok, okv]
        exact ⟨arr, rfl, harr⟩
    case inr.inr.inr.inr.inr.inr.inr.inr.inr.inr.inr.inr.inr.inr.inr.inr.inr.inr.inr.inl =>
      obtain ⟨v, t18, e18⟩ := hJ.get 18 (by omega) (hdep rfl)
      simp [ok, okv] at e18
      obtain ⟨arr, e18, harr⟩ := e18
      subst e18
      have h3 : a.tmps[34]? = some (.agg arr) := t18
      have hsz := hJ.gr.size
      refine wpOp_value rfl rfl (v := .pointer (some ⟨w'.heap.size, 0, none⟩)) (w' := w'.alloc (.cells arr 62)) ?_ (hJ.put (i := 19) (by omega) (World.grownBy_alloc w' _ _) ?_)
      · simp [execOp, Act.eval, h3, Instr.box, go_sem]
      · simp only [ok]
        exact ⟨w'.heap.size, arr, rfl, hsz, heap_alloc_new w' _, harr⟩
    case inr.inr.inr.inr.inr.inr.inr.inr.inr.inr.inr.inr.inr.inr.inr.inr.inr.inr.inr.inr =>
      obtain ⟨v, t19, e19⟩ := hJ.get 19 (by omega) (hdep.1 rfl)
      have h3 : a.tmps[35]? = some v := t19
      refine wpOp_value rfl rfl (v := v) (w' := w') ?_ (hJ.put (i := 20) (by omega) (grown_refl w') ?_)
      · simp [execOp, Act.eval, h3]
      · simp only [ok] at e19 ⊢
        exact e19

end Go.Proofs.Ybulkbcym
