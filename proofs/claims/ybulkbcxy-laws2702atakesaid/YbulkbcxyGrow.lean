import Derived.Test.YbulkbcxyBase
import Derived.BigRegion
namespace Go.Proofs.Ybulkbcxy
open Go.RowKit

/-- The cells of a ring of L places, new. -/
def blank (L : Nat) : Array Value := madeCells #[.nilFunc, .nilFunc] (L * 2)

theorem blank_size (L : Nat) : (blank L).size = L * 2 := size_madeCells _ _
theorem blank_get (L j : Nat) (h : j < L * 2) : (blank L)[j]? = some .nilFunc := by
  have hm : j % 2 = 0 ∨ j % 2 = 1 := by omega
  unfold blank madeCells
  rw [Array.getElem?_map, Array.getElem?_range]
  simp only [h, if_true, Option.map_some]
  rcases hm with e | e <;> simp [e]
theorem blank_list (L : Nat) : (blank L).toList = List.replicate (L * 2) .nilFunc := by
  apply List.ext_getElem?
  intro j
  by_cases h : j < L * 2
  · have := blank_get L j h
    rw [Array.getElem?_toList, this, List.getElem?_replicate, if_pos h]
  · rw [List.getElem?_eq_none (by simp [blank_size]; omega), List.getElem?_eq_none (by simp; omega)]

theorem info60 : (Yba.prog.info? 60).map (fun i => (i.zero, i.size, i.bytes)) = some (some (.agg #[.nilFunc, .nilFunc]), 2, 16) := by kernel_rfl

theorem make35 (W : World) (N : Nat) (x : Int) (hx : x = (N : Int)) (hN : N ≤ 5000) :
    (Instr.makeSlice 35 (.int .i64 x) (.int .i64 x)).run Yba.prog W = .ok (.slice (some ⟨W.heap.size, 0, none⟩) N N) (W.alloc (.cells (blank N) 60)) := by
  obtain ⟨i, hi, hz0, hz1, hz2⟩ := info_parts info60
  subst hx
  have hr := run_make (P := Yba.prog) W 35 60 i _ Yba.underlying35 hi hz0 .i64 .i64 N N (by omega) (Int.le_refl _) (by rw [hz2]; omega) (by omega)
  simp only [Int.toNat_natCast, hz1] at hr
  exact hr

theorem setRow_last (w : World) (c c' : Array Value) (t : TypeId) : (w.alloc (.cells c t)).setRow w.heap.size c' = w.alloc (.cells c' t) := by
  have e : (w.heap.push (.cells c t)).modify w.heap.size (fun | .cells _ e f => .cells c' e f | o => o) = w.heap.push (.cells c' t) := by
    apply Array.ext
    · simp
    · intro i h1 h2
      rw [Array.getElem_modify]
      simp at h1
      by_cases hi : w.heap.size = i
      · subst hi; simp
      · rw [if_neg hi, Array.getElem_push, Array.getElem_push, dif_pos (by omega), dif_pos (by omega)]
  exact congrArg (fun h => ({ w with heap := h } : World)) e

theorem copy_all (w : World) (g L : Nat) (cur : Array Value) (ty : TypeId) (hg : w.heap[g]? = some (.cells cur 60)) (hc : cur.size = L * 2) (h1 : ∀ v ∈ cur.toList, v.oneCell' = true) :
    (Builtin.copy_ #[35, 35] ty #[.slice (some ⟨w.heap.size, 0, none⟩) (2 * L) (2 * L), .slice (some ⟨g, 0, none⟩) L L]).run Yba.prog (w.alloc (.cells (blank (2 * L)) 60)).drew =
      .ok (.int .i64 L) (w.alloc (.cells (cur ++ blank L) 60)).drew := by
  obtain ⟨i, hi, hz0, hz1, hz2⟩ := info_parts info60
  have hlt := lt_of_block hg
  have hf := run_firstCells_some (P := Yba.prog) (w.alloc (.cells (blank (2 * L)) 60)).drew 2 L ⟨g, 0, none⟩ L L cur.toList (by simp [hc]) (by
    intro j v hj
    have hadd : (⟨g, 0, none⟩ : Addr).add j = ⟨g, j, none⟩ := by unfold Addr.add; split <;> simp_all
    rw [hadd]
    have hb : (w.alloc (.cells (blank (2 * L)) 60)).drew.heap[g]? = some (.cells cur 60) := (Below.heap_alloc w _ g hlt).trans hg
    simp only [World.cell?, hb]
    simpa using hj)
  have hs := run_storeCells_at Yba.prog w.heap.size 0 60 cur.toList 0 (blank (2 * L)) (w.alloc (.cells (blank (2 * L)) 60)).drew (heap_alloc_new w _) (by simp [hc, blank_size]; omega) h1
  have e : (List.take (0 + 0) (blank (2 * L)).toList ++ cur.toList ++ List.drop (0 + 0 + cur.toList.length) (blank (2 * L)).toList).toArray = cur ++ blank L := by
    apply Array.toList_inj.1
    rw [blank_list]
    simp only [Nat.zero_add, List.take_zero, List.nil_append, List.drop_replicate, Array.length_toList, hc, Array.toList_append, blank_list]
    rw [show 2 * L * 2 - L * 2 = L * 2 from by omega]
  rw [e] at hs
  have hset : (w.alloc (.cells (blank (2 * L)) 60)).drew.setRow w.heap.size (cur ++ blank L) = (w.alloc (.cells (cur ++ blank L) 60)).drew := by
    have := setRow_last w (blank (2 * L)) (cur ++ blank L) 60
    show ({ (w.alloc (.cells (blank (2 * L)) 60)).drew with heap := _ } : World) = _
    exact congrArg World.drew this
  rw [hset] at hs
  have hmin : Nat.min L (2 * L) = L := by simp [Nat.min_def]; omega
  simp [Builtin.copy_, run_underlying Yba.underlying35, sizeOf, typeInfo, hi, hz1, Builtin.lenOf, hmin, hf, hs, goInt]

theorem copy_none (w : World) (a b : Option Addr) (n c c' : Nat) (ty : TypeId) :
    (Builtin.copy_ #[35, 35] ty #[.slice a n c, .slice b 0 c']).run Yba.prog w = .ok (.int .i64 0) w := by
  obtain ⟨i, hi, -⟩ := info_parts info60
  cases a <;> cases b <;> simp [Builtin.copy_, run_underlying Yba.underlying35, sizeOf, typeInfo, hi, Builtin.lenOf, Builtin.firstCells, loadCells, loadCellsFrom, storeCells, goInt]

end Go.Proofs.Ybulkbcxy
