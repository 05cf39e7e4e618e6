import Derived.Test.YbulkbcxkChecking
namespace Go.Proofs.Ybulkbcxk
open Go.RowKit
open Go.ChangeMaps (setBlock)

theorem setBlock_last (w : World) (o o' : Obj) (M : Nat) (h : M = w.heap.size) : setBlock (w.alloc o) M o' = w.alloc o' := by
  subst h
  have e : (w.heap.push o).setIfInBounds w.heap.size o' = w.heap.push o' := by
    apply Array.ext
    · simp
    · intro i h1 h2
      rw [Array.getElem_setIfInBounds (by simpa using h1)]
      simp only [Array.getElem_push]
      simp at h1
      split <;> split <;> first | rfl | omega
  show ({ w.alloc o with heap := (w.heap.push o).setIfInBounds w.heap.size o' } : World) = { w.alloc o' with heap := w.heap.push o' }
  rw [e]
  rfl

theorem run_put_first (w : World) (k : ByteArray) (M b : Nat) (h : M = w.heap.size) :
    (Instr.mapUpdate 75 (.map (some M)) (.string k) (.pointer (some ⟨b, 0, none⟩))).run Yba.prog (w.alloc (.map #[] 0)) = .ok () (w.alloc (mapObj [(k, b)])) := by
  subst h
  have e := run_put (w.alloc (.map #[] 0)) w.heap.size [] k b (heap_alloc_new w _) rfl
  rw [e, setBlock_last _ _ _ _ rfl]
  rfl

/-- The world when the transaction has been laid. -/
def PW (w : World) (f : Bool) (k : ByteArray) : World :=
  (((((w.alloc (Obj.cells #[Value.bool f, Value.slice none 0 0, Value.slice none 0 0] 70)).alloc
                (Obj.cells #[Value.int IntKind.i64 7] 59)).alloc
            (mapObj [(k, w.heap.size)])).alloc
        (Obj.cells
          #[Value.iface 57 (Value.pointer (some { block := w.heap.size + 1, off := 0 })),
            Value.iface 75 (Value.map (some (w.heap.size + 1 + 1)))]
          73)).alloc
    (Obj.cells
      #[Value.pointer none, Value.int IntKind.u64 0, Value.pointer none, Value.int IntKind.u64 0, Value.map none,
        Value.int IntKind.i64 0, Value.string { data := #[] }, Value.slice none 0 0, Value.int IntKind.i32 0,
        Value.slice none 0 0, Value.bool false, Value.string { data := #[] }, Value.string { data := #[] },
        Value.slice none 0 0, Value.int IntKind.i32 0, Value.bool false, Value.nilIface,
        Value.slice (some { block := w.heap.size + 1 + 1 + 1, off := 0 }) 2 2]
      56))

/-- What the rest of the law asks of that world. -/
structure PF (w W : World) (f : Bool) (l : List (ByteArray × Nat)) : Prop where
  hE : W.heap[w.heap.size]? = some (.cells #[.bool f, .slice none 0 0, .slice none 0 0] 70)
  hP : W.cell? ⟨w.heap.size + 1, 0, none⟩ = some (.int .i64 7)
  hM : W.heap[w.heap.size + 1 + 1]? = some (mapObj l)
  h0 : W.cell? ⟨w.heap.size + 1 + 1 + 1, 0, none⟩ = some (.iface 57 (.pointer (some ⟨w.heap.size + 1, 0, none⟩)))
  h1 : W.cell? ⟨w.heap.size + 1 + 1 + 1, 1, none⟩ = some (.iface 75 (.map (some (w.heap.size + 1 + 1))))
  hT : W.cell? ⟨w.heap.size + 1 + 1 + 1 + 1, 17, none⟩ = some (.slice (some ⟨w.heap.size + 1 + 1 + 1, 0, none⟩) 2 2)
  hz : w.heap.size + 1 + 1 + 1 + 1 < W.heap.size
  hb : Below w.heap.size w W

theorem heap_old {w : World} {M : Nat} {o : Obj} (o' : Obj) (h : M < w.heap.size) (hh : w.heap[M]? = some o) : (w.alloc o').heap[M]? = some o := by
  rw [Below.heap_alloc w o' M h]
  exact hh

theorem pf_start (w : World) (f : Bool) (k : ByteArray) : PF w (PW w f k) f [(k, w.heap.size)] := by
  unfold PW
  refine ⟨?_, by go_simp, ?_, by go_simp, by go_simp, by go_simp, by simp, ?_⟩
  · exact heap_old _ (by simp; omega) (heap_old _ (by simp; omega) (heap_old _ (by simp; omega) (heap_old _ (by simp) (heap_alloc_new w _))))
  · refine heap_old _ (by simp) (heap_old _ (by simp) ?_)
    have := heap_alloc_new ((w.alloc (.cells #[.bool f, .slice none 0 0, .slice none 0 0] 70)).alloc (.cells #[.int .i64 7] 59)) (mapObj [(k, w.heap.size)])
    simpa using this
  · exact (((((Below.refl _ _).alloc (Nat.le_refl _) _).alloc (by simp) _).alloc (by simp; omega) _).alloc (by simp; omega) _).alloc (by simp; omega) _

end Go.Proofs.Ybulkbcxk
