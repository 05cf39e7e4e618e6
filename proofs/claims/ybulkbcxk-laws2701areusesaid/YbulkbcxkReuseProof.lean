/-
  The proof of 'Rows.LawS2701AReuseSaid', over the frame that the guide's shell tool writes for a law with slices; the walk is in YbulkbcxkReuseWalk.
-/
import Derived.Test.YbulkbcxkRows
import Derived.WalkKit
import Derived.ProofKit
import Derived.OpenShut
import Derived.ShutString
import Derived.ChangeOld
import Derived.Below
import Derived.Deep.Grids
import Derived.Test.YbulkbcxkReuseWalk
namespace Go.Proofs.Ybulkbcxk.lawS2701AReuse
open Go.ChangeShapes Go.WideShapes Go.ChangeAt Go.RowKit
set_option linter.unusedVariables false

theorem own : ownKnob Yba.prog.godebug = none := by kernel_rfl
theorem laidOut : laidOutB Yba.prog = true := by kernel_rfl

set_option maxRecDepth 100000 in
theorem walk_long (p0 : Int) (v2 : Value) (a1 : Option Addr) (n1 c1 : Nat) (w : World) (h1 : 1024 < n1) :
    Calls Yba.prog 3 #[.int .u8 p0, .slice a1 n1 c1, v2] w fun e w' => e = .returned (.bool true) ∧ Below w.heap.size w w' := by
  have hd : (1024 : Int) < (n1 : Int) := by omega
  go_enter Yba.func3, Yba.ntmps3
  go_wp2
  go_ret
  exact ⟨rfl, Below.refl _ _⟩

theorem add_plain {W : World} {x : Addr} {v : Value} (h : W.cell? (x.add 0) = some v) : ∃ b off, x = ⟨b, off, none⟩ ∧ b < W.heap.size ∧ ∀ k u, W.cell? (x.add k) = some u → W.cell? ⟨b, off + k, none⟩ = some u := by
  obtain ⟨b, off, spot⟩ := x
  have hspot : spot = none := by simpa [Addr.add] using World.cell?_spot h
  subst hspot
  have hadd : ∀ k, (⟨b, off, none⟩ : Addr).add k = ⟨b, off + k, none⟩ := fun k => by unfold Addr.add; split <;> simp_all
  refine ⟨b, off, rfl, ?_, fun k u hk => by rw [hadd] at hk; exact hk⟩
  rw [hadd] at h
  exact World.block_lt_of_cell? W ⟨b, off + 0, none⟩ h

theorem walk (a0 : Int) (w0 : (Lit.int .u8 a0).wf = true) (a1 a2 : Option Addr) (n1 c1 n2 c2 : Nat) (w : World)
    (r1 : (a1 = none ∧ n1 = 0) ∨ ∃ x, ∃ zs : List Int, a1 = some x ∧ n1 ≤ zs.length ∧ (∀ i, i < zs.length → w.cell? (x.add i) = some (.int .u8 (zs.getD i 0))) ∧ ∀ n ∈ zs, (Lit.int .u8 n).wf = true)
    (r2 : (a2 = none ∧ n2 = 0) ∨ ∃ x, ∃ B : Nat → Bool, a2 = some x ∧ n2 ≤ c2 ∧ c2 ≤ maxLen ∧ ∀ i, i < c2 → w.cell? (x.add i) = some (.bool (B i))) :
    Calls Yba.prog 3 #[.int .u8 a0, .slice a1 n1 c1, .slice a2 n2 c2] w fun e w' => e = .returned (.bool true) ∧ Below w.heap.size w w' := by
  have b0 := bounds_u8 w0
  by_cases hl : n1 ≤ 1024
  · obtain ⟨z, hz⟩ : ∃ z : Nat → Int, ∀ i, i < n1 → ∃ b off, a1 = some ⟨b, off, none⟩ ∧ b < w.heap.size ∧ w.cell? ⟨b, off + i, none⟩ = some (.int .u8 (z i)) ∧ 0 ≤ z i ∧ z i ≤ 255 := by
      rcases r1 with ⟨_, rfl⟩ | ⟨x, zs, rfl, hn, hc, hw⟩
      · exact ⟨fun _ => 0, fun i hi => by omega⟩
      · refine ⟨fun i => zs.getD i 0, fun i hi => ?_⟩
        have hci := hc i (by omega)
        obtain ⟨b, off, rfl, hb, hk⟩ := add_plain (hc 0 (by omega))
        have hbd := bounds_u8 (hw (zs.getD i 0) (by rw [List.getD_eq_getElem?_getD, List.getElem?_eq_getElem (by omega)]; exact List.getElem_mem _))
        exact ⟨b, off, rfl, hb, hk i _ hci, hbd.1, hbd.2⟩
    obtain ⟨f, hf⟩ : ∃ f : Nat → Bool, ∀ i, i < n2 → ∃ b off, a2 = some ⟨b, off, none⟩ ∧ b < w.heap.size ∧ w.cell? ⟨b, off + i, none⟩ = some (.bool (f i)) := by
      rcases r2 with ⟨_, rfl⟩ | ⟨x, B, rfl, hn, hm, hc⟩
      · exact ⟨fun _ => false, fun i hi => by omega⟩
      · refine ⟨B, fun i hi => ?_⟩
        have hci := hc i (by omega)
        obtain ⟨b, off, rfl, hb, hk⟩ := add_plain (hc 0 (by omega))
        exact ⟨b, off, rfl, hb, hk i _ hci⟩
    have h2 : n2 ≤ 9223372036854775807 := by
      rcases r2 with ⟨_, rfl⟩ | ⟨x, B, _, hn, hm, _⟩
      · omega
      · unfold maxLen at hm; omega
    exact Reuse.walk a0 b0.1 b0.2 a1 a2 n1 c1 n2 c2 z f w hl h2 hz hf
  · exact walk_long a0 _ a1 n1 c1 w (by omega)

set_option maxRecDepth 100000 in
theorem lifted (os : Os) (started : os.Started) (H : Type) (enc : TypeId × Value → H) :
    ReturnsInHanded {} Yba.checked os 3 .any (Rows.lawS2701AReuseSpec.pre6 enc Yba.prog Yba.f3 Rows.lawS2701AReuseRow.domain false) (Rows.lawS2701AReuseSpec.post enc Yba.prog Yba.f3 false true false false) := by
  refine returnsInHanded_of_change (C := Yba.checked) own started (by kernel_rfl) Yba.func3
    (ChangeSpec.witness6 (enc := enc) (C := Yba.checked) false ⟨#[], #[.int .u8 0, .slice none 0 0, .slice none 0 0], []⟩ 8 (by kernel_rfl) (by kernel_rfl) (by kernel_rfl) (by kernel_rfl)) ?_
  intro W base args ds gs before hval0 hW hcnd _
  have hval : ∀ (j : Nat) t v, Yba.f3.params[j]? = some t → args[j]? = some v → Value.okWide Yba.prog W .any base t v := hval0
  have hW' := hW
  obtain ⟨p, q, hA0, hV, rfl, hfz, hnd⟩ := hW
  have hA : DataW.TrodAll enc Yba.prog W 0 (fun _ => true) true Yba.f3.params.toList args.toList ds p := hA0
  rw [Yba.params3] at hA hval
  obtain ⟨v0, vs0, d0, ds0, p0, q0, hargs, rfl, rfl, h0, r0⟩ := trodAll_cons hA
  obtain ⟨v1, vs1, d1, ds1, p1, q1, rfl, rfl, rfl, h1, r1⟩ := trodAll_cons r0
  obtain ⟨v2, vs2, d2, ds2, p2, q2, rfl, rfl, rfl, h2, r2⟩ := trodAll_cons r1
  obtain ⟨rfl, rfl, rfl⟩ := trodAll_nil r2
  obtain rfl : args = #[v0, v1, v2] := by cases args; simp_all
  obtain ⟨rfl, rfl⟩ := trodVars_none hV
  obtain ⟨a0, rfl, rfl, rfl, w0⟩ := open_int Yba.underlying5 (hval 0 5 v0 rfl rfl) h0
  obtain ⟨a1, n1, c1, rfl⟩ := okWide_slice Yba.underlying22 (hval 1 22 v1 rfl rfl)
  obtain ⟨a2, n2, c2, rfl⟩ := okWide_slice Yba.underlying23 (hval 2 23 v2 rfl rfl)
  have k1 := h1
  have k2 := h2
  have lt1 : ∀ x ∈ p1, x.block < W.heap.size := by obtain ⟨m, hm⟩ := k1; exact DataW.trod_lt m _ _ _ hm
  have lt2 : ∀ x ∈ p2, x.block < W.heap.size := by obtain ⟨m, hm⟩ := k2; exact DataW.trod_lt m _ _ _ hm
  have R1 : (a1 = none ∧ n1 = 0) ∨ ∃ x, ∃ zs : List Int, a1 = some x ∧ n1 ≤ zs.length ∧ (∀ i, i < zs.length → W.cell? (x.add i) = some (.int .u8 (zs.getD i 0))) ∧ ∀ n ∈ zs, (Lit.int .u8 n).wf = true := by
    obtain ⟨fuel, hf⟩ := h1
    rcases open_ints Yba.underlying22 Yba.underlying5 (by kernel_rfl) hf with ⟨hcs, _⟩ | ⟨x, l, c, zs, hcs, _, hl, hm, hz, _, hcell, hwz⟩
    · simp [Value.cells] at hcs
      obtain ⟨rfl, rfl, rfl⟩ := hcs
      exact .inl ⟨rfl, rfl⟩
    · simp [Value.cells] at hcs
      obtain ⟨rfl, rfl, rfl⟩ := hcs
      exact .inr ⟨_, zs, rfl, by have : zs.length = c1 := by simpa using hz
                                 omega, hcell, hwz⟩
  have R2 : (a2 = none ∧ n2 = 0) ∨ ∃ x, ∃ B : Nat → Bool, a2 = some x ∧ n2 ≤ c2 ∧ c2 ≤ maxLen ∧ ∀ i, i < c2 → W.cell? (x.add i) = some (.bool (B i)) := by
    obtain ⟨fuel, hf⟩ := h2
    rcases Deep.open_bools Yba.underlying23 Yba.underlying4 (by kernel_rfl) hf with ⟨hcs, _⟩ | ⟨x, l, c, B, hcs, _, hl, hm, _, hcell⟩
    · simp [Value.cells] at hcs
      obtain ⟨rfl, rfl, rfl⟩ := hcs
      exact .inl ⟨rfl, rfl⟩
    · simp [Value.cells] at hcs
      obtain ⟨rfl, rfl, rfl⟩ := hcs
      exact .inr ⟨_, B, rfl, hl, hm, hcell⟩
  clear hA0 hval0
  refine (walk a0 w0 a1 a2 n1 c1 n2 c2 W R1 R2).mono fun e W' ⟨he, bel⟩ => ?_
  subst he
  exact ⟨_, rfl, _, _, _, [], _, [], hW', trodAll_mk1 (shut_bool Yba.underlying4 _), (trodAll_cons_mk (shut_int Yba.underlying5 w0) (trodAll_cons_mk (Below.trod laidOut (by kernel_rfl) (of_decide_eq_true (by kernel_rfl)) k1 bel lt1) (trodAll_cons_mk (Below.trod laidOut (by kernel_rfl) (of_decide_eq_true (by kernel_rfl)) k2 bel lt2) trodAll_mk0))), rfl, bel.frame _, fun h => by cases h⟩

theorem over : Rows.lawS2701AReuseRow.holds Yba.pinned (OpenSpec.ofChange Rows.lawS2701AReuseSpec) :=
  OpenClaim.holds_of_wide 3 Yba.f3 rfl rfl rfl rfl rfl rfl rfl ⟨rfl, rfl, rfl, rfl, rfl⟩ rfl rfl rfl rfl rfl (by kernel_rfl) Yba.func3 (by kernel_rfl)
    (of_decide_eq_true (by kernel_rfl)) (by unfold Func.isWrapper; first | (rw [if_pos (by decide +kernel)]; kernel_rfl) | (rw [if_neg (by decide +kernel)]; exact ⟨rfl, rfl⟩))
    (fun os started H enc _ => lifted os started H enc)

/-- THE STATEMENT -/
theorem proved : Rows.LawS2701AReuseSaid :=
  over
end Go.Proofs.Ybulkbcxk.lawS2701AReuse
