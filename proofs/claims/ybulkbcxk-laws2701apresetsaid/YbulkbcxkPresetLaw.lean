import Derived.Test.YbulkbcxkPresetWalk
namespace Go.Proofs.Ybulkbcxk
open Go.RowKit
open Go.ChangeMaps (setBlock)

theorem assert57_yes (W : World) (x : Value) : (Instr.typeAssert (.iface 57 x) 73 57 true).run Yba.prog W = .ok (.tuple #[x, .bool true]) W := by kernel_rfl

theorem info70 : (Yba.prog.info? 70).map (fun i => i.size) = some 3 := by kernel_rfl
theorem info59 : (Yba.prog.info? 59).map (fun i => i.size) = some 1 := by kernel_rfl

theorem eq60_same (W : World) (a : Addr) : (binOp .eql 60 (.pointer (some a)) (.pointer (some a))).run Yba.prog W = .ok (.bool true) W := by
  obtain ⟨i, hi, -⟩ := Option.map_eq_some_iff.1 info70
  exact run_eql_ptr_same W a Yba.underlying60 hi
theorem neq_ptr_same {P : Program} (w : World) {tp te : TypeId} {j : TypeInfo} (a : Addr) (hp : P.underlying tp = some (.pointer te)) (hte : P.info? te = some j) :
    (binOp .neq tp (.pointer (some a)) (.pointer (some a))).run P w = .ok (.bool false) w := by
  have h : ∀ d : Nat, (Op.equalIn (d + 1) tp (.pointer (some a)) (.pointer (some a))).run P w = .ok true w := fun d => by
    simp [Op.equalIn, run_underlying hp, sizeOf, typeInfo, hte, run_sameAddr_same]
  simp only [binOp]
  simp [Op.equal, Op.maxDepth, h 9999]
theorem neq_ptr_other {P : Program} (w : World) {tp te : TypeId} {j : TypeInfo} {a b : Addr} {ca cb : Array Value} {ta tb : TypeId} (hp : P.underlying tp = some (.pointer te)) (hte : P.info? te = some j) (hsz : j.size ≠ 0)
    (hne : a ≠ b) (ha : w.heap[a.block]? = some (.cells ca ta (0, 0))) (hb : w.heap[b.block]? = some (.cells cb tb (0, 0))) :
    (binOp .neq tp (.pointer (some a)) (.pointer (some b))).run P w = .ok (.bool true) w := by
  have h : ∀ d : Nat, (Op.equalIn (d + 1) tp (.pointer (some a)) (.pointer (some b))).run P w = .ok false w := fun d => by
    simp [Op.equalIn, run_underlying hp, sizeOf, typeInfo, hte, hsz, run_sameAddr_other w hne ha hb]
  simp only [binOp]
  simp [Op.equal, Op.maxDepth, h 9999]
theorem ne60_same (W : World) (a : Addr) : (binOp .neq 60 (.pointer (some a)) (.pointer (some a))).run Yba.prog W = .ok (.bool false) W := by
  obtain ⟨i, hi, -⟩ := Option.map_eq_some_iff.1 info70
  exact neq_ptr_same W a Yba.underlying60 hi
theorem ne57_same (W : World) (a : Addr) : (binOp .neq 57 (.pointer (some a)) (.pointer (some a))).run Yba.prog W = .ok (.bool false) W := by
  obtain ⟨i, hi, -⟩ := Option.map_eq_some_iff.1 info59
  exact neq_ptr_same W a Yba.underlying57 hi
theorem eq60_other (W : World) (a b : Nat) (ca cb : Array Value) (hne : a ≠ b) (ha : W.heap[a]? = some (.cells ca 70 (0, 0))) (hb : W.heap[b]? = some (.cells cb 70 (0, 0))) :
    (binOp .eql 60 (.pointer (some ⟨a, 0, none⟩)) (.pointer (some ⟨b, 0, none⟩))).run Yba.prog W = .ok (.bool false) W := by
  obtain ⟨i, hi, hs⟩ := Option.map_eq_some_iff.1 info70
  exact run_eql_ptr_other W Yba.underlying60 hi (by omega) (by intro h; exact hne (congrArg Addr.block h)) ha hb
theorem ne60_other (W : World) (a b : Nat) (ca cb : Array Value) (hne : a ≠ b) (ha : W.heap[a]? = some (.cells ca 70 (0, 0))) (hb : W.heap[b]? = some (.cells cb 70 (0, 0))) :
    (binOp .neq 60 (.pointer (some ⟨a, 0, none⟩)) (.pointer (some ⟨b, 0, none⟩))).run Yba.prog W = .ok (.bool true) W := by
  obtain ⟨i, hi, hs⟩ := Option.map_eq_some_iff.1 info70
  exact neq_ptr_other W Yba.underlying60 hi (by omega) (by intro h; exact hne (congrArg Addr.block h)) ha hb

theorem pf_pre {w W : World} {f : Bool} {l : List (ByteArray × Nat)} (hF : PF w W f l) : ∀ i, i < 1 → ∃ x, W.cell? ⟨w.heap.size + 1 + 1 + 1, i, none⟩ = some (.iface 57 x) := by
  intro i hi
  obtain rfl : i = 0 := by omega
  exact ⟨_, hF.h0⟩

theorem pf_found {w W : World} {f : Bool} {l : List (ByteArray × Nat)} (hF : PF w W f l) (k : ByteArray) (b : Nat) (hk : look k l = some b) :
    Calls Yba.prog 5 #[.pointer (some ⟨w.heap.size + 1 + 1 + 1 + 1, 0, none⟩), .string k] W fun e w' => e = .returned (.pointer (some ⟨b, 0, none⟩)) ∧ w' = W :=
  checking_found _ _ 2 2 (w.heap.size + 1 + 1) 1 b k l W hF.hT (by omega) (by omega) (pf_pre hF) hF.h1 hF.hM hk

theorem cell_setBlock_map {W : World} {M : Nat} {es : List (ByteArray × Nat)} {o : Obj} (hM : W.heap[M]? = some (mapObj es)) {a : Addr} {v : Value} (h : W.cell? a = some v) : (setBlock W M o).cell? a = some v := by
  have hne : a.block ≠ M := by
    intro e
    simp [World.cell?, e, hM, mapObj] at h
  have : (setBlock W M o).heap[a.block]? = W.heap[a.block]? := by
    simp only [setBlock, Array.getElem?_setIfInBounds]
    rw [if_neg (by omega)]
  rw [World.cell?_of_block this]
  exact h

theorem cell_alloc_keep {W : World} {o : Obj} {a : Addr} {v : Value} (h : W.cell? a = some v) : (W.alloc o).cell? a = some v :=
  (World.cell?_of_block (Below.heap_alloc W o a.block (World.block_lt_of_cell? W a h))).trans h

theorem block_setBlock_map {W : World} {M : Nat} {es : List (ByteArray × Nat)} {o : Obj} (hM : W.heap[M]? = some (mapObj es)) {b : Nat} {c : Array Value} {t : TypeId} {z : Nat × Nat} (h : W.heap[b]? = some (.cells c t z)) : (setBlock W M o).heap[b]? = some (.cells c t z) := by
  have hne : b ≠ M := by
    intro e
    rw [e, hM] at h
    simp [mapObj] at h
  simp only [setBlock, Array.getElem?_setIfInBounds]
  rw [if_neg (by omega)]
  exact h

/-- The world behind a new check: the same facts, one entry more, the new block. -/
theorem pf_next {w W : World} {f : Bool} {l : List (ByteArray × Nat)} (hF : PF w W f l) (l' : List (ByteArray × Nat)) :
    PF w (setBlock (W.alloc freshChange) (w.heap.size + 1 + 1) (mapObj l')) f l' ∧
    (setBlock (W.alloc freshChange) (w.heap.size + 1 + 1) (mapObj l')).heap[W.heap.size]? = some (.cells #[.bool false, .slice none 0 0, .slice none 0 0] 70) := by
  have hM := heap_alloc_lt freshChange hF.hM
  have keep : ∀ {a : Addr} {v : Value}, W.cell? a = some v → (setBlock (W.alloc freshChange) (w.heap.size + 1 + 1) (mapObj l')).cell? a = some v := fun h => cell_setBlock_map hM (cell_alloc_keep h)
  have hlt := hF.hz
  have hs : (setBlock (W.alloc freshChange) (w.heap.size + 1 + 1) (mapObj l')).heap.size = W.heap.size + 1 := by simp [setBlock]
  refine ⟨⟨block_setBlock_map hM (heap_alloc_lt _ hF.hE), keep hF.hP, ?_, keep hF.h0, keep hF.h1, keep hF.hT, by omega, ?_⟩, ?_⟩
  · simp only [setBlock, Array.getElem?_setIfInBounds]
    rw [if_pos trivial, if_pos (by simp; omega)]
  · have h1 := hF.hb.alloc (o := freshChange) (by omega)
    refine h1.trans ⟨rfl, rfl, rfl, by simp [setBlock], fun k hk => ?_⟩
    simp only [setBlock, Array.getElem?_setIfInBounds]
    rw [if_neg (by omega)]
  · exact block_setBlock_map hM (heap_alloc_new W _)

set_option maxRecDepth 100000 in
set_option maxHeartbeats 1000000 in
theorem preset_same (a b : Int) (f : Bool) (ha0 : 0 ≤ a) (ha1 : a ≤ 255) (hb0 : 0 ≤ b) (hb1 : b ≤ 255) (w : World) (hab : a % 5 = b % 5) :
    Calls Yba.prog 4 #[.int .u8 a, .int .u8 b, .bool f] w fun e w' => e = .returned (.bool true) ∧ Below w.heap.size w w' := by
  have hp := run_put_first ((w.alloc (.cells #[.bool f, .slice none 0 0, .slice none 0 0] 70)).alloc (.cells #[.int .i64 7] 59)) (nm (a % 5)) (w.heap.size + 1 + 1) w.heap.size (by simp)
  have hbe : (a % 5 == b % 5) = true := by simpa using hab
  have hF := pf_start w f (nm (a % 5))
  have H1 : Hid _ := pf_found hF (nm (a % 5)) w.heap.size (by simp [look])
  have H2 : Hid _ := pf_found hF (nm (b % 5)) w.heap.size (by rw [hab]; simp [look])
  clear hab
  have hmm := @run_makeMap Yba.prog
  go_enter Yba.func4, Yba.ntmps4
  go_wp2_with (first | (go_at_call 6; refine (name_any _ (by assumption) (by assumption) _).mono ?_; rintro e w' ⟨rfl, rfl⟩))
  change Calls Yba.prog 5 _ (PW w f (nm (a % 5))) _
  generalize PW w f (nm (a % 5)) = W at hF H1 H2 ⊢
  obtain ⟨hE, hP, hM, h0, h1, hT, hz, hb⟩ := hF
  have hE0 : W.cell? ⟨w.heap.size, 0, none⟩ = some (.bool f) := by simp [World.cell?, hE]
  have n1 := ne60_same W
  have n2 := ne57_same W
  have n3 := eq60_same W
  have a3 := assert57_yes W
  have a4 := assert_yes W
  have hlen := run_maplen W _ _ 3 hM
  simp only [List.length_cons, List.length_nil] at hlen
  clear hp hmm hM
  refine Calls.mono H1.out ?_
  rintro e w' ⟨rfl, rfl⟩
  clear H1
  go_wp2_with fail
  refine Calls.mono H2.out ?_
  rintro e w' ⟨rfl, rfl⟩
  clear H2
  go_wp2
  go_ret
  exact ⟨rfl, hb⟩

theorem pf_new {w W : World} {f : Bool} {l : List (ByteArray × Nat)} (hF : PF w W f l) (k : ByteArray) (hk : look k l = none) :
    Calls Yba.prog 5 #[.pointer (some ⟨w.heap.size + 1 + 1 + 1 + 1, 0, none⟩), .string k] W fun e w' => e = .returned (.pointer (some ⟨W.heap.size, 0, none⟩)) ∧
      PF w w' f (l ++ [(k, W.heap.size)]) ∧ w'.heap[W.heap.size]? = some (.cells #[.bool false, .slice none 0 0, .slice none 0 0] 70) := by
  refine (checking_new _ _ 2 2 (w.heap.size + 1 + 1) 1 k l W hF.hT (by omega) (by omega) (pf_pre hF) hF.h1 hF.hM hk).mono ?_
  rintro e w' ⟨rfl, rfl⟩
  exact ⟨rfl, (pf_next hF _).1, (pf_next hF _).2⟩

theorem look_two (k k' : ByteArray) (b b' : Nat) (h : ¬ k = k') : look k ([(k', b')] ++ [(k, b)]) = some b ∧ look k' ([(k', b')] ++ [(k, b)]) = some b' := by
  simp [look, h]

theorem nm_inj (a b : Int) (ha : 0 ≤ a) (ha' : a < 5) (hb : 0 ≤ b) (hb' : b < 5) (h : nm a = nm b) : a = b := by
  have ea : a = 0 ∨ a = 1 ∨ a = 2 ∨ a = 3 ∨ a = 4 := by omega
  have eb : b = 0 ∨ b = 1 ∨ b = 2 ∨ b = 3 ∨ b = 4 := by omega
  rcases ea with rfl | rfl | rfl | rfl | rfl <;> rcases eb with rfl | rfl | rfl | rfl | rfl <;> first | rfl | (exfalso; revert h; decide)

set_option maxRecDepth 100000 in
set_option maxHeartbeats 1000000 in
theorem preset_diff (a b : Int) (f : Bool) (ha0 : 0 ≤ a) (ha1 : a ≤ 255) (hb0 : 0 ≤ b) (hb1 : b ≤ 255) (w : World) (hab : a % 5 ≠ b % 5) :
    Calls Yba.prog 4 #[.int .u8 a, .int .u8 b, .bool f] w fun e w' => e = .returned (.bool true) ∧ Below w.heap.size w w' := by
  have hp := run_put_first ((w.alloc (.cells #[.bool f, .slice none 0 0, .slice none 0 0] 70)).alloc (.cells #[.int .i64 7] 59)) (nm (a % 5)) (w.heap.size + 1 + 1) w.heap.size (by simp)
  have hbe : (a % 5 == b % 5) = false := by simpa using hab
  have hF := pf_start w f (nm (a % 5))
  have hnk : ¬ nm (b % 5) = nm (a % 5) := fun h => hab (nm_inj _ _ (by omega) (by omega) (by omega) (by omega) h).symm
  have H1 : Hid _ := pf_found hF (nm (a % 5)) w.heap.size (by simp [look])
  have H2 : Hid _ := pf_new hF (nm (b % 5)) (by simp [look, hnk])
  have Hnk : Hid _ := hnk
  clear hab hnk
  have hmm := @run_makeMap Yba.prog
  go_enter Yba.func4, Yba.ntmps4
  go_wp2_with (first | (go_at_call 6; refine (name_any _ (by assumption) (by assumption) _).mono ?_; rintro e w' ⟨rfl, rfl⟩))
  change Calls Yba.prog 5 _ (PW w f (nm (a % 5))) _
  generalize PW w f (nm (a % 5)) = W at hF H1 H2 ⊢
  clear hp hmm
  refine Calls.mono H1.out ?_
  rintro e w' ⟨rfl, rfl⟩
  clear H1
  have hE := hF.hE
  have hE0 : w'.cell? ⟨w.heap.size, 0, none⟩ = some (.bool f) := by simp [World.cell?, hE]
  have n1 := ne60_same w'
  have hlt := hF.hz
  clear hF hE
  go_wp2_with fail
  refine Calls.mono H2.out ?_
  rintro e W ⟨rfl, hF, hN⟩
  clear H2 hE0 n1
  obtain ⟨hE, hP, hM, h0, h1, hT, hz, hb⟩ := hF
  have n2 := ne57_same W
  have n3 := eq60_same W
  have n4 := ne60_other W _ _ _ _ (show w'.heap.size ≠ w.heap.size by omega) hN hE
  have a3 := assert57_yes W
  have a4 := assert_yes W
  have hlen := run_maplen W _ _ 3 hM
  have hl1 := run_look_hit W _ w'.heap.size _ (nm (b % 5)) hM (look_two _ _ _ _ Hnk.out).1
  have hl2 := run_look_hit W _ w.heap.size _ (nm (a % 5)) hM (look_two _ _ _ _ Hnk.out).2
  have hN0 : W.cell? ⟨w'.heap.size, 0, none⟩ = some (.bool false) := by simp [World.cell?, hN]
  have hN1 : W.cell? ⟨w'.heap.size, 1, none⟩ = some (.slice none 0 0) := by simp [World.cell?, hN]
  simp only [List.length_cons, List.length_nil, List.length_append] at hlen
  clear hM hE hN hlt
  go_wp2
  go_ret
  exact ⟨rfl, hb⟩

end Go.Proofs.Ybulkbcxk
