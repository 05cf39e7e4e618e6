import Derived.Test.YbulkbcxkReuseFirst
namespace Go.Proofs.Ybulkbcxk
open Go.RowKit
open Go.ChangeMaps (setBlock)
namespace Reuse

def upd {α : Type} (f : Nat → α) (j : Nat) (x : α) : Nat → α := fun k => if k = j then x else f k

def seenArr (q : Nat → Option Nat) : Array Value := #[ptr (q 0), ptr (q 1), ptr (q 2), ptr (q 3), ptr (q 4)]
def flArr (f : Nat → Bool) : Array Value := #[.bool (f 0), .bool (f 1), .bool (f 2), .bool (f 3), .bool (f 4)]

theorem lt5 {j : Nat} (h : j < 5) : j = 0 ∨ j = 1 ∨ j = 2 ∨ j = 3 ∨ j = 4 := by omega

theorem seenArr_get (q : Nat → Option Nat) (j : Nat) (h : j < 5) : (seenArr q)[j]? = some (ptr (q j)) := by
  rcases lt5 h with rfl | rfl | rfl | rfl | rfl <;> rfl
theorem flArr_get (q : Nat → Bool) (j : Nat) (h : j < 5) : (flArr q)[j]? = some (.bool (q j)) := by
  rcases lt5 h with rfl | rfl | rfl | rfl | rfl <;> rfl
theorem seenArr_set (q : Nat → Option Nat) (j b : Nat) (h : j < 5) : (seenArr q).setIfInBounds j (.pointer (some ⟨b, 0, none⟩)) = seenArr (upd q j (some b)) := by
  rcases lt5 h with rfl | rfl | rfl | rfl | rfl <;> rfl
theorem flArr_set (q : Nat → Bool) (j : Nat) (x : Bool) (h : j < 5) : (flArr q).setIfInBounds j (.bool x) = flArr (upd q j x) := by
  rcases lt5 h with rfl | rfl | rfl | rfl | rfl <;> rfl
theorem seenArr_congr {q q' : Nat → Option Nat} (h : ∀ k, k < 5 → q k = q' k) : seenArr q = seenArr q' := by
  simp [seenArr, h]

def polRow (ps : List Nat) (on : Bool) (M : Nat) : List Value :=
  ps.map (fun p => Value.iface 57 (.pointer (some ⟨p, 0, none⟩))) ++ (if on then [.iface 75 (.map (some M))] else [])

theorem look_snoc (k k' : ByteArray) (b : Nat) : ∀ l : List (ByteArray × Nat), look k (l ++ [(k', b)]) = match look k l with | some x => some x | none => if k = k' then some b else none
  | [] => by simp [look]
  | p :: r => by
    simp only [List.cons_append, look]
    split
    · rfl
    · exact look_snoc k k' b r

theorem nm_inj (a b : Nat) (ha : a < 5) (hb : b < 5) (h : nm a = nm b) : a = b := by
  rcases lt5 ha with rfl | rfl | rfl | rfl | rfl <;> rcases lt5 hb with rfl | rfl | rfl | rfl | rfl <;> first | rfl | (exfalso; revert h; decide)

/-- WHAT HOLDS WHILE THE NAMES ARE GONE THROUGH. w: the world before the call; W: now. ps: the blocks of the policies laid ahead; S, F: the blocks of 'seen' and 'fl'; M: the map's block, once there is one ('on'); l: the map; q: what 'seen' holds; g: what each change's 'forget' holds; fl: what 'fl' holds. -/
structure St (w W : World) (ps : List Nat) (S F M : Nat) (on : Bool) (l : List (ByteArray × Nat)) (q : Nat → Option Nat) (g fl : Nat → Bool) : Prop where
  below : Below w.heap.size w W
  tx : ∃ v, W.heap[w.heap.size]? = some (.cells (txArr v) 56) ∧ W.ownsRow (w.heap.size + 1) 73 1 v (polRow ps on M).length (polRow ps on M)
  ids : ∀ j p : Nat, ps[j]? = some p → W.heap[p]? = some (.cells #[.int .i64 j] 59)
  mp : on = true → W.heap[M]? = some (mapObj l) ∧ w.heap.size < M
  off : on = false → l = []
  seen : W.heap[S]? = some (.cells (seenArr q) 61)
  flags : W.heap[F]? = some (.cells (flArr fl) 62)
  chg : ∀ k : Nat, k < 5 → ∀ b, look (nm k) l = some b → w.heap.size < b ∧ W.heap[b]? = some (.cells #[.bool (g k), .slice none 0 0, .slice none 0 0] 70)
  inj : ∀ k k' b : Nat, k < 5 → k' < 5 → look (nm k) l = some b → look (nm k') l = some b → k = k'
  hS : w.heap.size < S
  hF : w.heap.size < F
  few : ps.length ≤ 3

section
variable {w W : World} {ps : List Nat} {S F M : Nat} {on : Bool} {l : List (ByteArray × Nat)} {q : Nat → Option Nat} {g fl : Nat → Bool}

theorem St.lt (h : St w W ps S F M on l q g fl) : w.heap.size < W.heap.size := by
  obtain ⟨v, hT, _⟩ := h.tx
  exact lt_of_block hT

theorem polRow_on (ps : List Nat) (M : Nat) : (polRow ps true M).length = ps.length + 1 ∧ (polRow ps true M)[ps.length]? = some (.iface 75 (.map (some M))) ∧
    (∀ j, j < ps.length → ∃ p, ps[j]? = some p ∧ (polRow ps true M)[j]? = some (.iface 57 (.pointer (some ⟨p, 0, none⟩)))) := by
  refine ⟨by simp [polRow], by simp [polRow], fun j hj => ⟨ps[j], by simp [hj], ?_⟩⟩
  simp [polRow, List.getElem?_append_left, hj]

/-- The policies' slice, once the map is there: a row of its own, the cells as the list has them. -/
theorem St.row (h : St w W ps S F M true l q g fl) : ∃ G cap, W.cell? ⟨w.heap.size, 17, none⟩ = some (.slice (some ⟨G, 0, none⟩) (ps.length + 1) cap) ∧
    W.cell? ⟨G, ps.length, none⟩ = some (.iface 75 (.map (some M))) ∧
    (∀ j, j < ps.length → ∃ p, ps[j]? = some p ∧ W.cell? ⟨G, j, none⟩ = some (.iface 57 (.pointer (some ⟨p, 0, none⟩)))) := by
  obtain ⟨v, hT, hown⟩ := h.tx
  obtain ⟨h1, h2, h3⟩ := polRow_on ps M
  rw [h1] at hown
  obtain ⟨G, cap, rfl⟩ := shape_of hown
  refine ⟨G, cap, tx_cell hT, ?_, fun j hj => ?_⟩
  · rw [hown.cellAt _ (by omega), h2]
  · obtain ⟨p, hp, hq⟩ := h3 j hj
    exact ⟨p, hp, by rw [hown.cellAt _ (by omega), hq]⟩

theorem St.on_of (h : St w W ps S F M on l q g fl) {k : ByteArray} {b : Nat} (hk : look k l = some b) : on = true := by
  cases on with
  | true => rfl
  | false => rw [h.off rfl] at hk; simp [look] at hk

theorem inv_found (h : St w W ps S F M on l q g fl) {k : ByteArray} {b : Nat} (hk : look k l = some b) :
    Calls Yba.prog 5 #[.pointer (some ⟨w.heap.size, 0, none⟩), .string k] W fun e w' => e = .returned (.pointer (some ⟨b, 0, none⟩)) ∧ w' = W := by
  obtain rfl := h.on_of hk
  obtain ⟨G, cap, h1, h2, h3⟩ := h.row
  have hf := h.few
  refine checking_found _ G (ps.length + 1) cap M ps.length b k l W h1 (by omega) (by omega) (fun i hi => ?_) h2 (h.mp rfl).1 hk
  obtain ⟨p, _, hp⟩ := h3 i hi
  exact ⟨_, hp⟩

theorem look_new {j k : Nat} (hj : j < 5) (hk : k < 5) {b x : Nat} (hn : look (nm j) l = none) (h : look (nm k) (l ++ [(nm j, b)]) = some x) : (k = j ∧ x = b) ∨ (k ≠ j ∧ look (nm k) l = some x) := by
  rw [look_snoc] at h
  by_cases e : k = j
  · subst e
    rw [hn] at h
    simp at h
    exact .inl ⟨rfl, h.symm⟩
  · refine .inr ⟨e, ?_⟩
    cases hl : look (nm k) l with
    | some y => rw [hl] at h; exact h
    | none =>
      rw [hl] at h
      have : ¬ nm (k : Int) = nm (j : Int) := fun hh => e (nm_inj k j hk hj hh)
      simp [this] at h

theorem st_mk (h : St w W ps S F M on l q g fl) {W' : World} {M' b j : Nat} (hj : j < 5) (hn : look (nm j) l = none)
    (keep : ∀ (x : Nat) (c : Array Value) (t : TypeId), x ≠ w.heap.size → t ≠ 73 → W.heap[x]? = some (.cells c t) → W'.heap[x]? = some (.cells c t))
    (tx' : ∃ v, W'.heap[w.heap.size]? = some (.cells (txArr v) 56) ∧ W'.ownsRow (w.heap.size + 1) 73 1 v (polRow ps true M').length (polRow ps true M'))
    (mp' : W'.heap[M']? = some (mapObj (l ++ [(nm j, b)])) ∧ w.heap.size < M') (hb : W.heap.size ≤ b) (hN : W'.heap[b]? = some (.cells #[.bool false, .slice none 0 0, .slice none 0 0] 70))
    (hB : Below w.heap.size w W') : St w W' ps S F M' true (l ++ [(nm j, b)]) q (upd g j false) fl where
  below := hB
  tx := tx'
  ids := fun i p hp => keep p _ _ (fun e => by
      have h1 := h.ids i p hp
      obtain ⟨v, hT, _⟩ := h.tx
      rw [e, hT] at h1
      simp at h1) (by decide) (h.ids i p hp)
  mp := fun _ => mp'
  off := fun e => by cases e
  seen := keep S _ _ (by have := h.hS; omega) (by decide) h.seen
  flags := keep F _ _ (by have := h.hF; omega) (by decide) h.flags
  chg := fun k hk x hx => by
    have hlt := h.lt
    rcases look_new hj hk hn hx with ⟨rfl, rfl⟩ | ⟨hne, ho⟩
    · refine ⟨by omega, ?_⟩
      simpa [upd] using hN
    · obtain ⟨h1, h2⟩ := h.chg k hk x ho
      refine ⟨h1, ?_⟩
      simp only [upd, hne, if_false]
      exact keep x _ _ (by omega) (by decide) h2
  inj := fun k k' x hk hk' h1 h2 => by
    rcases look_new hj hk hn h1 with ⟨e1, rfl⟩ | ⟨n1, o1⟩ <;> rcases look_new hj hk' hn h2 with ⟨e2, e3⟩ | ⟨n2, o2⟩
    · omega
    · have := lt_of_block (h.chg k' hk' _ o2).2; omega
    · have := lt_of_block (h.chg k hk _ o1).2; omega
    · exact h.inj k k' x hk hk' o1 o2
  hS := h.hS
  hF := h.hF
  few := h.few

theorem blk_setBlock_ne {W : World} {M x : Nat} {o o' : Obj} (h : W.heap[x]? = some o) (hne : x ≠ M) : (setBlock W M o').heap[x]? = some o := by
  simp only [setBlock, Array.getElem?_setIfInBounds]
  rw [if_neg (by omega)]
  exact h
theorem blk_setBlock_at {W : World} {M : Nat} {o : Obj} (h : M < W.heap.size) : (setBlock W M o).heap[M]? = some o := by
  simp only [setBlock, Array.getElem?_setIfInBounds]
  rw [if_pos trivial, if_pos h]
theorem below_setBlock {B M : Nat} {a W : World} {o : Obj} (h : Below B a W) (hM : B ≤ M) : Below B a (setBlock W M o) := by
  refine h.trans ⟨rfl, rfl, rfl, by simp [setBlock], fun k hk => ?_⟩
  simp only [setBlock, Array.getElem?_setIfInBounds]
  rw [if_neg (by omega)]
theorem grown_setBlock {M : Nat} {W : World} {o : Obj} : W.grownBy (setBlock W M o) (some M) := by
  refine ⟨rfl, rfl, rfl, by simp [setBlock], fun k _ hne => ?_⟩
  simp only [setBlock, Array.getElem?_setIfInBounds]
  rw [if_neg (by simpa using fun e => hne (by rw [e]))]

theorem st_new (h : St w W ps S F M on l q g fl) {j : Nat} (hj : j < 5) (hn : look (nm j) l = none) :
    Calls Yba.prog 5 #[.pointer (some ⟨w.heap.size, 0, none⟩), .string (nm j)] W fun e w' => ∃ M' b, e = .returned (.pointer (some ⟨b, 0, none⟩)) ∧ W.heap.size ≤ b ∧
      St w w' ps S F M' true (l ++ [(nm j, b)]) q (upd g j false) fl ∧ w'.heap[b]? = some (.cells #[.bool false, .slice none 0 0, .slice none 0 0] 70) := by
  have hlt := h.lt
  have hfew := h.few
  cases on with
  | true =>
    obtain ⟨G, cap, h1, h2, h3⟩ := h.row
    obtain ⟨hM, hMlt⟩ := h.mp rfl
    have hMs := lt_of_block hM
    have hM2 := heap_alloc_lt freshChange hM
    refine (checking_new _ G (ps.length + 1) cap M ps.length (nm j) l W h1 (by omega) (by omega) (fun i hi => ?_) h2 hM hn).mono ?_
    · obtain ⟨p, _, hp⟩ := h3 i hi
      exact ⟨_, hp⟩
    rintro e w' ⟨rfl, rfl⟩
    have keep : ∀ (x : Nat) (c : Array Value) (t : TypeId), W.heap[x]? = some (.cells c t) → (setBlock (W.alloc freshChange) M (mapObj (l ++ [(nm j, W.heap.size)]))).heap[x]? = some (.cells c t) :=
      fun x c t hx => blk_setBlock_ne (heap_alloc_lt _ hx) (fun e => by rw [e, hM] at hx; simp [mapObj] at hx)
    obtain ⟨v, hT, hown⟩ := h.tx
    have hN : (setBlock (W.alloc freshChange) M (mapObj (l ++ [(nm j, W.heap.size)]))).heap[W.heap.size]? = some (.cells #[.bool false, .slice none 0 0, .slice none 0 0] 70) :=
      blk_setBlock_ne (heap_alloc_new W _) (by omega)
    refine ⟨M, W.heap.size, rfl, Nat.le_refl _, ?_, hN⟩
    refine st_mk h hj hn (fun x c t _ _ hx => keep x c t hx) ⟨v, keep _ _ _ hT, ?_⟩ ⟨blk_setBlock_at (by simp; omega), hMlt⟩ (Nat.le_refl _) hN ?_
    · exact (hown.alloc freshChange).kept grown_setBlock (Or.inr (own_ne (hown.alloc freshChange) hM2 (by intro c; simp [mapObj])))
    · exact below_setBlock (h.below.alloc (by omega) _) (by omega)
  | false =>
    obtain rfl := h.off rfl
    obtain ⟨v, hT, hown⟩ := h.tx
    have hr : polRow ps false M = ps.map (fun p => Value.iface 57 (.pointer (some ⟨p, 0, none⟩))) := by simp [polRow]
    rw [hr] at hown
    refine (checking_first w.heap.size _ v _ (nm j) W hT hown (fun u hu => by simp at hu; obtain ⟨p, _, rfl⟩ := hu; exact ⟨_, rfl⟩) (by simp; omega)).mono ?_
    rintro e w' ⟨v', W1, hg, hown', rfl, rfl⟩
    have hs := hg.size
    simp at hs
    have hT1 : W1.heap[w.heap.size]? = some (.cells (txArr v) 56) := blk_grown (heap_alloc_lt _ (heap_alloc_lt _ hT)) hg (own_ne hown hT (by intro c; simp))
    have hTe : (txArr v).setIfInBounds 17 v' = txArr v' := rfl
    have hT2 := blk_setCell_at (off := 17) (v := v') hT1
    rw [hTe] at hT2
    have hne : v'.ownBlock ≠ some w.heap.size := fun e => by have := hown'.lt _ e; omega
    have keep : ∀ (x : Nat) (c : Array Value) (t : TypeId), x ≠ w.heap.size → t ≠ 73 → W.heap[x]? = some (.cells c t) →
        (setBlock ((W1.setCell ⟨w.heap.size, 17, none⟩ v').alloc freshChange) W.heap.size (mapObj [(nm j, W1.heap.size)])).heap[x]? = some (.cells c t) := by
      intro x c t hx ht hxx
      have hxl := lt_of_block hxx
      refine blk_setBlock_ne (heap_alloc_lt _ (blk_setCell_ne ?_ hx)) (by omega)
      exact blk_grown (heap_alloc_lt _ (heap_alloc_lt _ hxx)) hg (own_ne hown hxx (by intro c' e; simp at e; exact ht e.2))
    have hN : (setBlock ((W1.setCell ⟨w.heap.size, 17, none⟩ v').alloc freshChange) W.heap.size (mapObj [(nm j, W1.heap.size)])).heap[W1.heap.size]? = some (.cells #[.bool false, .slice none 0 0, .slice none 0 0] 70) := by
      refine blk_setBlock_ne ?_ (by omega)
      have hz : (W1.setCell ⟨w.heap.size, 17, none⟩ v').heap.size = W1.heap.size := by simp [World.setCell]
      have := heap_alloc_new (W1.setCell ⟨w.heap.size, 17, none⟩ v') freshChange
      rw [hz] at this
      exact this
    refine ⟨W.heap.size, W1.heap.size, rfl, by omega, ?_, hN⟩
    refine st_mk h hj hn keep ⟨v', blk_setBlock_ne (heap_alloc_lt _ hT2) (by omega), ?_⟩ ⟨blk_setBlock_at (by simp [World.setCell]; omega), hlt⟩ (by omega) hN ?_
    · have e1 : polRow ps true W.heap.size = ps.map (fun p => Value.iface 57 (.pointer (some ⟨p, 0, none⟩))) ++ [.iface 75 (.map (some W.heap.size))] := by simp [polRow]
      have hM1 : W1.heap[W.heap.size]? = some (.map #[] 0) := blk_grown (heap_alloc_lt _ (heap_alloc_new W _)) hg (fun e => by have := hown.lt _ e; omega)
      have hM2 := heap_alloc_lt freshChange (blk_setCell_ne (a := ⟨w.heap.size, 17, none⟩) (v := v') hM1 (show W.heap.size ≠ w.heap.size by omega))
      have ho2 := (ownsRow_setCell_other hown' (a := ⟨w.heap.size, 17, none⟩) hne v').alloc freshChange
      rw [e1, List.length_append, List.length_singleton]
      exact ho2.kept grown_setBlock (Or.inr (own_ne ho2 hM2 (by intro c; simp)))
    · have hz : (W1.setCell ⟨w.heap.size, 17, none⟩ v').heap.size = W1.heap.size := by simp [World.setCell]
      have b1 : Below w.heap.size w W1 := (((h.below.alloc (by omega) _).alloc (by simp; omega) _).grown hg (by simp; omega) (fun k hk => by have := (hown.lt k hk).1; omega))
      have b2 : Below w.heap.size w (W1.setCell ⟨w.heap.size, 17, none⟩ v') := b1.setCell (Nat.le_refl _) v'
      exact below_setBlock (b2.alloc (by omega) _) (by omega)

theorem st_seen (h : St w W ps S F M on l q g fl) {j b : Nat} (hj : j < 5) : St w (W.setCell ⟨S, j, none⟩ (.pointer (some ⟨b, 0, none⟩))) ps S F M on l (upd q j (some b)) g fl where
  below := h.below.setCell (by have := h.hS; show w.heap.size ≤ S; omega) _
  tx := by
    obtain ⟨v, hT, hown⟩ := h.tx
    exact ⟨v, blk_setCell_ne hT (by have := h.hS; show w.heap.size ≠ S; omega), ownsRow_setCell_other hown (own_ne hown h.seen (by intro c; simp)) _⟩
  ids := fun i p hp => blk_setCell_ne (h.ids i p hp) (fun e => by
    have h1 := h.ids i p hp
    have h2 := h.seen
    rw [show p = S from e, h2] at h1
    simp at h1)
  mp := fun e => ⟨blk_setCell_ne (h.mp e).1 (fun e' => by
    have h1 := (h.mp e).1
    have h2 := h.seen
    rw [show M = S from e', h2] at h1
    simp [mapObj] at h1), (h.mp e).2⟩
  off := h.off
  seen := by rw [← seenArr_set q j b hj]; exact blk_setCell_at h.seen
  flags := blk_setCell_ne h.flags (fun e => by
    have h1 := h.flags
    have h2 := h.seen
    rw [show F = S from e, h2] at h1
    simp at h1)
  chg := fun k hk x hx => ⟨(h.chg k hk x hx).1, blk_setCell_ne (h.chg k hk x hx).2 (fun e => by
    have h1 := (h.chg k hk x hx).2
    have h2 := h.seen
    rw [show x = S from e, h2] at h1
    simp at h1)⟩
  inj := h.inj
  hS := h.hS
  hF := h.hF
  few := h.few

theorem st_flag (h : St w W ps S F M on l q g fl) {j : Nat} {x : Bool} (hj : j < 5) : St w (W.setCell ⟨F, j, none⟩ (.bool x)) ps S F M on l q g (upd fl j x) where
  below := h.below.setCell (by have := h.hF; show w.heap.size ≤ F; omega) _
  tx := by
    obtain ⟨v, hT, hown⟩ := h.tx
    exact ⟨v, blk_setCell_ne hT (by have := h.hF; show w.heap.size ≠ F; omega), ownsRow_setCell_other hown (own_ne hown h.flags (by intro c; simp)) _⟩
  ids := fun i p hp => blk_setCell_ne (h.ids i p hp) (fun e => by
    have h1 := h.ids i p hp
    have h2 := h.flags
    rw [show p = F from e, h2] at h1
    simp at h1)
  mp := fun e => ⟨blk_setCell_ne (h.mp e).1 (fun e' => by
    have h1 := (h.mp e).1
    have h2 := h.flags
    rw [show M = F from e', h2] at h1
    simp [mapObj] at h1), (h.mp e).2⟩
  off := h.off
  seen := blk_setCell_ne h.seen (fun e => by
    have h1 := h.seen
    have h2 := h.flags
    rw [show S = F from e, h2] at h1
    simp at h1)
  flags := by rw [← flArr_set fl j x hj]; exact blk_setCell_at h.flags
  chg := fun k hk x hx => ⟨(h.chg k hk x hx).1, blk_setCell_ne (h.chg k hk x hx).2 (fun e => by
    have h1 := (h.chg k hk x hx).2
    have h2 := h.flags
    rw [show x = F from e, h2] at h1
    simp at h1)⟩
  inj := h.inj
  hS := h.hS
  hF := h.hF
  few := h.few

theorem st_forget (h : St w W ps S F M on l q g fl) {j b : Nat} {x : Bool} (hj : j < 5) (hb : look (nm j) l = some b) : St w (W.setCell ⟨b, 0, none⟩ (.bool x)) ps S F M on l q (upd g j x) fl where
  below := h.below.setCell (by have := (h.chg j hj b hb).1; show w.heap.size ≤ b; omega) _
  tx := by
    obtain ⟨v, hT, hown⟩ := h.tx
    exact ⟨v, blk_setCell_ne hT (by have := (h.chg j hj b hb).1; show w.heap.size ≠ b; omega), ownsRow_setCell_other hown (own_ne hown (h.chg j hj b hb).2 (by intro c; simp)) _⟩
  ids := fun i p hp => blk_setCell_ne (h.ids i p hp) (fun e => by
    have h1 := h.ids i p hp
    have h2 := (h.chg j hj b hb).2
    rw [show p = b from e, h2] at h1
    simp at h1)
  mp := fun e => ⟨blk_setCell_ne (h.mp e).1 (fun e' => by
    have h1 := (h.mp e).1
    have h2 := (h.chg j hj b hb).2
    rw [show M = b from e', h2] at h1
    simp [mapObj] at h1), (h.mp e).2⟩
  off := h.off
  seen := blk_setCell_ne h.seen (fun e => by
    have h1 := h.seen
    have h2 := (h.chg j hj b hb).2
    rw [show S = b from e, h2] at h1
    simp at h1)
  flags := blk_setCell_ne h.flags (fun e => by
    have h1 := h.flags
    have h2 := (h.chg j hj b hb).2
    rw [show F = b from e, h2] at h1
    simp at h1)
  chg := fun k hk y hy => by
    obtain ⟨h1, h2⟩ := h.chg k hk y hy
    refine ⟨h1, ?_⟩
    by_cases e : k = j
    · subst e
      rw [hb] at hy
      obtain rfl : b = y := by simpa using hy
      simp only [upd, if_true]
      exact blk_setCell_at h2
    · simp only [upd, e, if_false]
      refine blk_setCell_ne h2 (fun e' => e (h.inj k j b hk hj ?_ hb))
      rw [hy, show y = b from e']
  inj := h.inj
  hS := h.hS
  hF := h.hF
  few := h.few

theorem St.seenCell (h : St w W ps S F M on l q g fl) {j : Nat} (hj : j < 5) : W.cell? ⟨S, j, none⟩ = some (ptr (q j)) ∧ W.frozen? ⟨S, j, none⟩ = false :=
  ⟨by simp only [World.cell?, h.seen]; exact seenArr_get q j hj, by simp [World.frozen?, h.seen]⟩
theorem St.flagCell (h : St w W ps S F M on l q g fl) {j : Nat} (hj : j < 5) : W.cell? ⟨F, j, none⟩ = some (.bool (fl j)) ∧ W.frozen? ⟨F, j, none⟩ = false :=
  ⟨by simp only [World.cell?, h.flags]; exact flArr_get fl j hj, by simp [World.frozen?, h.flags]⟩
theorem St.chgCell (h : St w W ps S F M on l q g fl) {j b : Nat} (hj : j < 5) (hb : look (nm j) l = some b) : W.cell? ⟨b, 0, none⟩ = some (.bool (g j)) ∧ W.frozen? ⟨b, 0, none⟩ = false ∧ b ≠ F ∧ b ≠ S := by
  have h2 := (h.chg j hj b hb).2
  refine ⟨by simp [World.cell?, h2], by simp [World.frozen?, h2], fun e => ?_, fun e => ?_⟩
  · rw [e, h.flags] at h2; simp at h2
  · rw [e, h.seen] at h2; simp at h2

/-- A seen check's block is another one than a new block. -/
theorem St.chgLt (h : St w W ps S F M on l q g fl) {j b : Nat} (hj : j < 5) (hb : look (nm j) l = some b) : b < W.heap.size := lt_of_block (h.chg j hj b hb).2

theorem look_upd {j b : Nat} (hj : j < 5) (hn : look (nm j) l = none) : ∀ k, k < 5 → upd (fun k : Nat => look (nm k) l) j (some b) k = look (nm k) (l ++ [(nm j, b)]) := by
  intro k hk
  rw [look_snoc]
  by_cases e : k = j
  · subst e
    simp [upd, hn]
  · have hne : ¬ nm (k : Int) = nm (j : Int) := fun hh => e (nm_inj k j hk hj hh)
    simp only [upd, e, if_false, hne]
    cases look (nm k) l <;> rfl

theorem St.reseen {q' : Nat → Option Nat} (h : St w W ps S F M on l q g fl) (hq : ∀ k, k < 5 → q k = q' k) : St w W ps S F M on l q' g fl :=
  ⟨h.below, h.tx, h.ids, h.mp, h.off, by rw [← seenArr_congr hq]; exact h.seen, h.flags, h.chg, h.inj, h.hS, h.hF, h.few⟩

theorem upd_upd {α : Type} (f : Nat → α) (j : Nat) (x y : α) : upd (upd f j x) j y = upd f j y := by
  funext k
  simp only [upd]
  split <;> rfl

end

theorem info70 : (Yba.prog.info? 70).map (fun i => i.size) = some 3 := by kernel_rfl
theorem neq_ptr_same {P : Program} (w : World) {tp te : TypeId} {j : TypeInfo} (a : Addr) (hp : P.underlying tp = some (.pointer te)) (hte : P.info? te = some j) :
    (binOp .neq tp (.pointer (some a)) (.pointer (some a))).run P w = .ok (.bool false) w := by
  have h : ∀ d : Nat, (Op.equalIn (d + 1) tp (.pointer (some a)) (.pointer (some a))).run P w = .ok true w := fun d => by
    simp [Op.equalIn, run_underlying hp, sizeOf, typeInfo, hte, run_sameAddr_same]
  simp only [binOp]
  simp [Op.equal, Op.maxDepth, h 9999]
theorem ne60_same (W : World) (a : Addr) : (binOp .neq 60 (.pointer (some a)) (.pointer (some a))).run Yba.prog W = .ok (.bool false) W := by
  obtain ⟨i, hi, -⟩ := Option.map_eq_some_iff.1 info70
  exact neq_ptr_same W a Yba.underlying60 hi
theorem eq60_other (W : World) (a b : Nat) (ca cb : Array Value) (hne : a ≠ b) (ha : W.heap[a]? = some (.cells ca 70 (0, 0))) (hb : W.heap[b]? = some (.cells cb 70 (0, 0))) :
    (binOp .eql 60 (.pointer (some ⟨a, 0, none⟩)) (.pointer (some ⟨b, 0, none⟩))).run Yba.prog W = .ok (.bool false) W := by
  obtain ⟨i, hi, hs⟩ := Option.map_eq_some_iff.1 info70
  exact run_eql_ptr_other W Yba.underlying60 hi (by omega) (by intro h; exact hne (congrArg Addr.block h)) ha hb
theorem eq60_nil (W : World) (b : Nat) : (binOp .eql 60 (.pointer none) (.pointer (some ⟨b, 0, none⟩))).run Yba.prog W = .ok (.bool false) W := by
  have h : ∀ d : Nat, (Op.equalIn (d + 1) 60 (.pointer none) (.pointer (some ⟨b, 0, none⟩))).run Yba.prog W = .ok false W := fun d => by
    simp [Op.equalIn, run_underlying Yba.underlying60, samePointer]
  simp only [binOp]
  simp [Op.equal, Op.maxDepth, h 9999]

end Reuse
end Go.Proofs.Ybulkbcxk
