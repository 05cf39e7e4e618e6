import Derived.Test.YbulkbcxkName
namespace Go.Proofs.Ybulkbcxk
open Go.RowKit
open Go.ChangeMaps (setBlock)

/-- The entries of a map of names to blocks, in the order in which they were laid. -/
def entsFrom : Nat → List (ByteArray × Nat) → List MapEntry
  | _, [] => []
  | i, p :: r => { key := .string p.1, val := .pointer (some ⟨p.2, 0, none⟩), born := i } :: entsFrom (i + 1) r

def mapObj (l : List (ByteArray × Nat)) : Obj := .map (entsFrom 0 l).toArray l.length

/-- What the map answers. -/
def look (k : ByteArray) : List (ByteArray × Nat) → Option Nat
  | [] => none
  | p :: r => if k = p.1 then some p.2 else look k r

def ptr : Option Nat → Value
  | none => .pointer none
  | some b => .pointer (some ⟨b, 0, none⟩)

theorem findNow_ents (k : ByteArray) : ∀ (l : List (ByteArray × Nat)) (i j : Nat),
    (look k l = none → Instr.findNow .string (.string k) (entsFrom i l) j = some none) ∧
    (∀ b, look k l = some b → ∃ j', Instr.findNow .string (.string k) (entsFrom i l) j = some (some (j', .pointer (some ⟨b, 0, none⟩))))
  | [], i, j => by simp [look, entsFrom, Instr.findNow]
  | p :: r, i, j => by
    have ih := findNow_ents k r (i + 1) (j + 1)
    by_cases h : k = p.1
    · have hb : (p.1 == p.1) = true := (MapKept.bytes_beq _ _).2 rfl
      simp [look, entsFrom, Instr.findNow, Instr.sameNow, h, hb]
    · have hb : (k == p.1) = false := by
        cases hh : (k == p.1) with
        | false => rfl
        | true => exact absurd ((MapKept.bytes_beq _ _).1 hh) h
      simp only [look, entsFrom, Instr.findNow, Instr.sameNow, h, hb, if_false]
      exact ih

theorem entsFrom_snoc (k : ByteArray) (b : Nat) : ∀ (l : List (ByteArray × Nat)) (i : Nat),
    entsFrom i (l ++ [(k, b)]) = entsFrom i l ++ [{ key := .string k, val := .pointer (some ⟨b, 0, none⟩), born := i + l.length }]
  | [], i => by simp [entsFrom]
  | p :: r, i => by
    simp only [List.cons_append, entsFrom, entsFrom_snoc k b r (i + 1), List.length_cons]
    rw [show i + 1 + r.length = i + (r.length + 1) from by omega]

theorem entsFrom_length : ∀ (l : List (ByteArray × Nat)) (i : Nat), (entsFrom i l).length = l.length
  | [], i => by simp [entsFrom]
  | p :: r, i => by simp [entsFrom, entsFrom_length r]

theorem run_look (w : World) (M : Nat) (l : List (ByteArray × Nat)) (k : ByteArray) (h : w.heap[M]? = some (mapObj l)) :
    (Instr.lookup 75 (.map (some M)) (.string k) false).run Yba.prog w = .ok (ptr (look k l)) w := by
  have hk : ∀ b, (Instr.checkKey b 10000 9 (.string k)).run Yba.prog w = .ok () w := fun b => by cases b <;> kernel_rfl
  have hg := run_getObj_map (P := Yba.prog) (w := w) M _ _ h
  have hf := findNow_ents k l 0 0
  cases hl : look k l with
  | none =>
    simp [Instr.lookup, Instr.findKey, run_underlying Yba.underlying75, run_underlying Yba.underlying9, hg, hk, hf.1 hl, ptr]
  | some b =>
    obtain ⟨j', hj⟩ := hf.2 b hl
    simp [Instr.lookup, Instr.findKey, run_underlying Yba.underlying75, run_underlying Yba.underlying9, hg, hk, hj, ptr]

theorem run_put (w : World) (M : Nat) (l : List (ByteArray × Nat)) (k : ByteArray) (b : Nat) (h : w.heap[M]? = some (mapObj l)) (hl : look k l = none) :
    (Instr.mapUpdate 75 (.map (some M)) (.string k) (.pointer (some ⟨b, 0, none⟩))).run Yba.prog w = .ok () (setBlock w M (mapObj (l ++ [(k, b)]))) := by
  have hk : ∀ b, (Instr.checkKey b 10000 9 (.string k)).run Yba.prog w = .ok () w := fun b => by cases b <;> kernel_rfl
  have hg := run_getObj_map (P := Yba.prog) (w := w) M _ _ h
  have hf := (findNow_ents k l 0 0).1 hl
  have hs : ∀ o, (setObj M o).run Yba.prog w = .ok () (setBlock w M o) := fun o => MapKept.run_setObj_map o h
  simp [Instr.mapUpdate, Instr.findKey, run_underlying Yba.underlying75, run_underlying Yba.underlying9, hg, hk, hf, hs]
  simp [mapObj, entsFrom_snoc]

theorem run_maplen (w : World) (M : Nat) (l : List (ByteArray × Nat)) (ty : TypeId) (h : w.heap[M]? = some (mapObj l)) :
    (Builtin.len_ #[75] ty #[.map (some M)]).run Yba.prog w = .ok (.int .i64 l.length) w := by
  have hg := run_getObj_map (P := Yba.prog) (w := w) M _ _ h
  simp [Builtin.len_, run_underlying Yba.underlying75, hg, entsFrom_length, goInt]

end Go.Proofs.Ybulkbcxk
