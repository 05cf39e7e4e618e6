import Derived.Test.YbulkbcxkReuseInv
namespace Go.Proofs.Ybulkbcxk
open Go.RowKit
open Go.ChangeMaps (setBlock)
namespace Reuse

/-- What holds while the policies are laid ahead. -/
structure Pre (w W : World) (ps : List Nat) : Prop where
  below : Below w.heap.size w W
  tx : ∃ v, W.heap[w.heap.size]? = some (.cells (txArr v) 56) ∧ W.ownsRow (w.heap.size + 1) 73 1 v ps.length (ps.map fun p => Value.iface 57 (.pointer (some ⟨p, 0, none⟩)))
  ids : ∀ j p : Nat, ps[j]? = some p → W.heap[p]? = some (.cells #[.int .i64 j] 59)

theorem pre_start (w : World) : Pre w (w.alloc (.cells (txArr (.slice none 0 0)) 56)) [] :=
  ⟨(Below.refl _ _).alloc (Nat.le_refl _) _, ⟨_, heap_alloc_new w _, World.ownsRow_nil _ _ _ _⟩, fun j p h => by simp at h⟩

theorem pre_step {w W W1 : World} {ps : List Nat} {v v' : Value} (h : Pre w W ps) (hT : W.heap[w.heap.size]? = some (.cells (txArr v) 56))
    (hown : W.ownsRow (w.heap.size + 1) 73 1 v ps.length (ps.map fun p => Value.iface 57 (.pointer (some ⟨p, 0, none⟩))))
    (hg : ((W.alloc (.cells #[.int .i64 ps.length] 59)).alloc (.cells #[.iface 57 (.pointer (some ⟨W.heap.size, 0, none⟩))] 73)).grownBy W1 v.ownBlock)
    (hown' : W1.ownsRow (w.heap.size + 1) 73 1 v' (ps.length + 1) (ps.map (fun p => Value.iface 57 (.pointer (some ⟨p, 0, none⟩))) ++ [.iface 57 (.pointer (some ⟨W.heap.size, 0, none⟩))])) :
    Pre w (W1.setCell ⟨w.heap.size, 17, none⟩ v') (ps ++ [W.heap.size]) := by
  have hlt := lt_of_block hT
  have hT1 : W1.heap[w.heap.size]? = some (.cells (txArr v) 56) := blk_grown (heap_alloc_lt _ (heap_alloc_lt _ hT)) hg (own_ne hown hT (by intro c; simp))
  have hT2 := blk_setCell_at (off := 17) (v := v') hT1
  have hTe : (txArr v).setIfInBounds 17 v' = txArr v' := rfl
  rw [hTe] at hT2
  refine ⟨?_, ⟨v', hT2, ?_⟩, fun j p hp => ?_⟩
  · have b1 : Below w.heap.size w W1 := (((h.below.alloc (by omega) _).alloc (by simp; omega) _).grown hg (by simp; omega) (fun k hk => by have := (hown.lt k hk).1; omega))
    exact b1.setCell (Nat.le_refl _) v'
  · have := ownsRow_setCell_other hown' (a := ⟨w.heap.size, 17, none⟩) (fun e => by have := hown'.lt _ e; simp at this; omega) v'
    simpa using this
  · by_cases hj : j < ps.length
    · rw [List.getElem?_append_left hj] at hp
      have hp2 := h.ids j p hp
      have hpl := lt_of_block hp2
      refine blk_setCell_ne (blk_grown (heap_alloc_lt _ (heap_alloc_lt _ hp2)) hg (own_ne hown hp2 (by intro c; simp))) ?_
      intro e
      rw [show p = w.heap.size from e, hT] at hp2
      simp at hp2
    · rw [List.getElem?_append_right (by omega)] at hp
      have e0 : j - ps.length = 0 := by
        have : j - ps.length < 1 := by
          have := (List.getElem?_eq_some_iff.1 hp).1
          simpa using this
        omega
      rw [e0] at hp
      obtain rfl : W.heap.size = p := by simpa using hp
      obtain rfl : j = ps.length := by omega
      refine blk_setCell_ne ?_ (show W.heap.size ≠ w.heap.size by omega)
      refine blk_grown (heap_alloc_lt _ (heap_alloc_new W _)) hg ?_
      exact fun e => by have := hown.lt _ e; omega

theorem st_start {w W : World} {ps : List Nat} (h : Pre w W ps) (hf : ps.length ≤ 3) :
    St w ((W.alloc (.cells #[.pointer none, .pointer none, .pointer none, .pointer none, .pointer none] 61)).alloc (.cells #[.bool false, .bool false, .bool false, .bool false, .bool false] 62)) ps W.heap.size (W.heap.size + 1) 0 false [] (fun k => look (nm k) []) (fun _ => false) (fun _ => false) := by
  obtain ⟨v, hT, hown⟩ := h.tx
  have hlt := lt_of_block hT
  refine ⟨(h.below.alloc (by omega) _).alloc (by simp; omega) _, ⟨v, heap_alloc_lt _ (heap_alloc_lt _ hT), ?_⟩, fun j p hp => heap_alloc_lt _ (heap_alloc_lt _ (h.ids j p hp)), (by intro e; cases e), fun _ => rfl, ?_, ?_, ?_, ?_, hlt, by omega, hf⟩
  · have := (hown.alloc (.cells #[.pointer none, .pointer none, .pointer none, .pointer none, .pointer none] 61)).alloc (.cells #[.bool false, .bool false, .bool false, .bool false, .bool false] 62)
    simpa [polRow] using this
  · exact heap_alloc_lt _ (heap_alloc_new W _)
  · have := heap_alloc_new (W.alloc (.cells #[.pointer none, .pointer none, .pointer none, .pointer none, .pointer none] 61)) (.cells #[.bool false, .bool false, .bool false, .bool false, .bool false] 62)
    simpa [flArr] using this
  · intro k hk b hb; simp [look] at hb
  · intro k k' b hk hk' hb; simp [look] at hb

section
variable {w W : World} {ps : List Nat} {S F M : Nat} {on : Bool} {l : List (ByteArray × Nat)} {q : Nat → Option Nat} {g fl : Nat → Bool}

theorem St.drewN (h : St w W ps S F M on l q g fl) (n : Nat) : St w (W.drewN n) ps S F M on l q g fl :=
  ⟨h.below.trans ⟨rfl, rfl, rfl, Nat.le_refl _, fun _ _ => rfl⟩, h.tx, h.ids, h.mp, h.off, h.seen, h.flags, h.chg, h.inj, h.hS, h.hF, h.few⟩

theorem round_found {k j b : Nat} {x : Bool} (h : St w W ps S F M (decide (0 < k)) l (fun k => look (nm k) l) fl fl) (hj : j < 5) (hb : look (nm j) l = some b) (n : Nat) :
    St w (((W.drewN n).setCell ⟨b, 0, none⟩ (.bool x)).setCell ⟨F, j, none⟩ (.bool x)) ps S F M (decide (0 < k + 1)) l (fun k => look (nm k) l) (upd fl j x) (upd fl j x) := by
  have hon := h.on_of hb
  have e : decide (0 < k + 1) = true := by simp
  rw [hon] at h
  rw [e]
  exact st_flag (st_forget (h.drewN n) hj hb) hj

theorem round_new {k j b : Nat} {x : Bool} (h : St w W ps S F M true (l ++ [(nm j, b)]) (fun k => look (nm k) l) (upd fl j false) fl) (hj : j < 5) (hn : look (nm j) l = none) :
    St w (((W.setCell ⟨S, j, none⟩ (.pointer (some ⟨b, 0, none⟩))).setCell ⟨b, 0, none⟩ (.bool x)).setCell ⟨F, j, none⟩ (.bool x)) ps S F M (decide (0 < k + 1)) (l ++ [(nm j, b)]) (fun k => look (nm k) (l ++ [(nm j, b)])) (upd fl j x) (upd fl j x) := by
  have e : decide (0 < k + 1) = true := by simp
  have hb : look (nm j) (l ++ [(nm j, b)]) = some b := by rw [look_snoc, hn]; simp
  rw [e]
  have h3 := st_flag (j := j) (x := x) (st_forget (x := x) (st_seen (b := b) h hj) hj hb) hj
  rw [upd_upd] at h3
  exact h3.reseen (look_upd hj hn)

/-- 'seen[k] == c' for a new block c: false, whatever k. -/
theorem seen_other {k j b : Nat} (h : St w W ps S F M on (l ++ [(nm j, b)]) (fun k => look (nm k) l) g fl) (hj : j < 5) (hk : k < 5) (hn : look (nm j) l = none)
    (hN : W.heap[b]? = some (.cells #[.bool false, .slice none 0 0, .slice none 0 0] 70)) :
    (binOp .eql 60 (ptr (look (nm k) l)) (.pointer (some ⟨b, 0, none⟩))).run Yba.prog W = .ok (.bool false) W := by
  cases hl : look (nm k) l with
  | none => exact eq60_nil W b
  | some y =>
    have hy : look (nm k) (l ++ [(nm j, b)]) = some y := by rw [look_snoc, hl]
    have hb : look (nm j) (l ++ [(nm j, b)]) = some b := by rw [look_snoc, hn]; simp
    have hne : y ≠ b := by
      rintro rfl
      have := h.inj k j y hk hj hy hb
      rw [this, hn] at hl
      cases hl
    exact eq60_other W y b _ _ hne (h.chg k hk y hy).2 hN

/-- The policies at the end: the slice, and what was laid ahead in it. -/
theorem St.rowAny (h : St w W ps S F M on l q g fl) : ∃ ao cap, W.cell? ⟨w.heap.size, 17, none⟩ = some (.slice ao (ps.length + if on then 1 else 0) cap) ∧
    (∀ j, j < ps.length → ∃ G p, ao = some ⟨G, 0, none⟩ ∧ W.cell? ⟨G, j, none⟩ = some (.iface 57 (.pointer (some ⟨p, 0, none⟩))) ∧ W.cell? ⟨p, 0, none⟩ = some (.int .i64 j)) := by
  have cellp : ∀ j p : Nat, ps[j]? = some p → W.cell? ⟨p, 0, none⟩ = some (.int .i64 j) := fun j p hp => by simp [World.cell?, h.ids j p hp]
  cases on with
  | true =>
    obtain ⟨G, cap, h1, h2, h3⟩ := h.row
    refine ⟨_, cap, by simpa using h1, fun j hj => ?_⟩
    obtain ⟨p, hp, hc⟩ := h3 j hj
    exact ⟨G, p, rfl, hc, cellp j p hp⟩
  | false =>
    obtain ⟨v, hT, hown⟩ := h.tx
    have hr : polRow ps false M = ps.map (fun p => Value.iface 57 (.pointer (some ⟨p, 0, none⟩))) := by simp [polRow]
    rw [hr, List.length_map] at hown
    rcases hown.2 with ⟨rfl, h0⟩ | ⟨G, cap, cur, rfl, _⟩
    · exact ⟨none, 0, by rw [tx_cell hT, h0]; rfl, fun j hj => by omega⟩
    · refine ⟨_, cap, by simpa using tx_cell hT, fun j hj => ⟨G, ps[j], rfl, ?_, cellp j _ (by simp [hj])⟩⟩
      rw [hown.cellAt _ (by omega)]
      simp [hj]

theorem ptr_form (o : Option Nat) : ∃ a, ptr o = .pointer a := by
  cases o with
  | none => exact ⟨none, rfl⟩
  | some b => exact ⟨_, rfl⟩

end
end Reuse
end Go.Proofs.Ybulkbcxk
