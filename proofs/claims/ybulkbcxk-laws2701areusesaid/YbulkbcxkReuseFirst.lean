import Derived.Test.YbulkbcxkChecking
import Derived.Maps.AppendAt
namespace Go.Proofs.Ybulkbcxk
open Go.RowKit
open Go.ChangeMaps (setBlock)
namespace Reuse

/-- The cells of a transaction that is zero but for its policies. -/
def txArr (v : Value) : Array Value :=
  #[Value.pointer none, Value.int IntKind.u64 0, Value.pointer none, Value.int IntKind.u64 0, Value.map none,
        Value.int IntKind.i64 0, Value.string { data := #[] }, Value.slice none 0 0, Value.int IntKind.i32 0,
        Value.slice none 0 0, Value.bool false, Value.string { data := #[] }, Value.string { data := #[] },
        Value.slice none 0 0, Value.int IntKind.i32 0, Value.bool false, Value.nilIface, v]

theorem tx_cell {W : World} {T : Nat} {v : Value} (h : W.heap[T]? = some (.cells (txArr v) 56)) : W.cell? ⟨T, 17, none⟩ = some v := by
  simp [World.cell?, h, txArr]
theorem tx_free {W : World} {T : Nat} {v : Value} (h : W.heap[T]? = some (.cells (txArr v) 56)) : W.frozen? ⟨T, 17, none⟩ = false := by
  simp [World.frozen?, h]

theorem blk_setCell_ne {W : World} {b : Nat} {o : Obj} {a : Addr} {v : Value} (h : W.heap[b]? = some o) (hne : b ≠ a.block) : (W.setCell a v).heap[b]? = some o := by
  rw [Below.heap_setCell _ _ _ _ hne]
  exact h
theorem blk_setCell_at {W : World} {b : Nat} {c : Array Value} {t : TypeId} {z : Nat × Nat} {off : Nat} {v : Value} (h : W.heap[b]? = some (.cells c t z)) : (W.setCell ⟨b, off, none⟩ v).heap[b]? = some (.cells (c.setIfInBounds off v) t z) := by
  have hlt := lt_of_block h
  have h' : W.heap[b] = .cells c t z := by simpa [Array.getElem?_eq_getElem hlt] using h
  show (W.heap.modify b _)[b]? = _
  rw [Array.getElem?_eq_getElem (by simpa using hlt), Array.getElem_modify_self, h']
  rfl
theorem blk_grown {W W' : World} {b : Nat} {o : Obj} {row : Option Nat} (h : W.heap[b]? = some o) (hg : W.grownBy W' row) (hne : row ≠ some b) : W'.heap[b]? = some o := by
  rw [hg.block b (lt_of_block h) (fun e => hne e.symm)]
  exact h
theorem own_ne {W : World} {base : Nat} {v : Value} {n : Nat} {xs : List Value} (h : W.ownsRow base 73 1 v n xs) {b : Nat} {o : Obj} (hb : W.heap[b]? = some o) (hn : ∀ c, o ≠ .cells c 73 (0, 0)) : v.ownBlock ≠ some b := by
  intro e
  rcases h.2 with ⟨rfl, _⟩ | ⟨g, cap, cur, rfl, _, hg, _⟩
  · simp [Value.ownBlock] at e
  · simp [Value.ownBlock] at e
    subst e
    rw [hg] at hb
    exact hn cur (by simpa using hb.symm)

theorem info73 : (Yba.prog.info? 73).map (fun i => (i.zero, i.size, i.bytes)) = some (some .nilIface, 1, 16) := by kernel_rfl

theorem own_pre {W : World} {base n : Nat} {v : Value} {xs : List Value} (h : W.ownsRow base 73 1 v n xs) (hx : ∀ u ∈ xs, ∃ x, u = .iface 57 x) :
    ∃ ao cap, v = .slice ao n cap ∧ ∀ i, i < n → ∃ g x, ao = some ⟨g, 0, none⟩ ∧ W.cell? ⟨g, i, none⟩ = some (.iface 57 x) := by
  have hl := h.1
  rcases h.2 with ⟨rfl, rfl⟩ | ⟨g, cap, cur, rfl, hb, hg, r⟩
  · exact ⟨none, 0, rfl, fun i hi => by omega⟩
  · refine ⟨_, cap, rfl, fun i hi => ?_⟩
    have hc := h.cellAt i (by omega)
    obtain ⟨x, hx'⟩ := hx xs[i] (List.getElem_mem (by omega))
    rw [List.getElem?_eq_getElem (by omega), hx'] at hc
    exact ⟨g, x, rfl, hc⟩

theorem shape_of {W : World} {base n : Nat} {v : Value} {xs : List Value} (h : W.ownsRow base 73 1 v (n + 1) xs) : ∃ g cap, v = .slice (some ⟨g, 0, none⟩) (n + 1) cap := by
  rcases h.2 with ⟨_, h0⟩ | ⟨g', cap', cur', h, _⟩
  · omega
  · exact ⟨g', cap', h⟩

set_option maxRecDepth 100000 in
set_option maxHeartbeats 400000 in
theorem checking_first (T n : Nat) (v : Value) (xs : List Value) (k : ByteArray) (W : World) (hT : W.heap[T]? = some (.cells (txArr v) 56)) (hown : W.ownsRow (T + 1) 73 1 v n xs)
    (hx : ∀ u ∈ xs, ∃ x, u = .iface 57 x) (hn : n ≤ 100) :
    Calls Yba.prog 5 #[.pointer (some ⟨T, 0, none⟩), .string k] W fun e w' => ∃ v' W1,
      ((W.alloc (.map #[] 0)).alloc (.cells #[.iface 75 (.map (some W.heap.size))] 73)).grownBy W1 v.ownBlock ∧ W1.ownsRow (T + 1) 73 1 v' (n + 1) (xs ++ [.iface 75 (.map (some W.heap.size))]) ∧
      e = .returned (.pointer (some ⟨W1.heap.size, 0, none⟩)) ∧ w' = setBlock ((W1.setCell ⟨T, 17, none⟩ v').alloc freshChange) W.heap.size (mapObj [(k, W1.heap.size)]) := by
  obtain ⟨i, hi, hz0, hz1, hz2⟩ := info_parts info73
  obtain ⟨ao, cap, hv, hpre⟩ := own_pre hown hx
  subst hv
  have hlt := lt_of_block hT
  have hTc := tx_cell hT
  have hmm := @run_makeMap Yba.prog
  go_enter Yba.func5, Yba.ntmps5
  go_wp2_with (first | (go_at_call 9; refine (policy_none T n cap ao _ hTc (by omega) hpre).mono ?_; rintro e w' ⟨rfl, rfl⟩) | (at_builtin; refine wpList_append_own _ rfl (.tmp 21) (.tmp 24) 54 rfl (T + 1) 73 i .nilIface 1 16 Yba.underlying54 hi hz0 hz1 hz2 rfl (by decide) _ n xs rfl ((hown.alloc _).alloc _) ⟨w'.heap.size + 1, 0, none⟩ 1 1 [.iface 75 (.map (some w'.heap.size))] rfl rfl ?c1 ?c2 (by unfold maxLen; omega) (by omega) (by simp; omega) ?_) | go_in)
  case c1 => simpa using cell_one_new (w'.alloc (.map #[] 0)) (.iface 75 (.map (some w'.heap.size))) 73
  case c2 => intro u hu; simp at hu; subst hu; rfl
  intro v' W1 hown' hgrow _
  obtain ⟨g', cap', hv'⟩ := shape_of hown'
  have hT1 : W1.heap[T]? = some (.cells (txArr (.slice ao n cap)) 56) := blk_grown (heap_alloc_lt _ (heap_alloc_lt _ hT)) hgrow (own_ne hown hT (by intro c; simp))
  have hM1 : W1.heap[w'.heap.size]? = some (mapObj []) := blk_grown (heap_alloc_lt _ (heap_alloc_new w' _)) hgrow (fun e => by have := hown.lt _ e; omega)
  have hc1 := tx_cell hT1
  have hf1 := tx_free hT1
  have hM2 : (W1.setCell ⟨T, 17, none⟩ v').heap[w'.heap.size]? = some (mapObj []) := blk_setCell_ne hM1 (show w'.heap.size ≠ T by omega)
  have hl := run_look_miss (W1.setCell ⟨T, 17, none⟩ v') _ [] k hM2 rfl
  have hp := run_put ((W1.setCell ⟨T, 17, none⟩ v').alloc (.cells #[.bool false, .slice none 0 0, .slice none 0 0] 70)) _ [] k W1.heap.size (heap_alloc_lt _ hM2) rfl
  have Hg : Hid _ := hgrow
  have Ho : Hid _ := hown'
  clear hgrow hown' hM1 hM2 hT1 hT hown hpre hmm hTc
  rw [hv'] at hl hp ⊢
  have HV : Hid _ := hv'
  clear hv'
  go_wp2
  go_ret
  exact ⟨v', W1, Hg.out, Ho.out, rfl, by rw [HV.out]; rfl⟩

end Reuse
end Go.Proofs.Ybulkbcxk
