/-
  The proof of 'Rows.LawS2703BInstalledSaid', over the frame that the guide's shell tool writes for a law with slices; the walk is in YbulkbcymLaw.
-/
import Derived.Test.YbulkbcymRows
import Derived.WalkKit
import Derived.ProofKit
import Derived.OpenShut
import Derived.ShutString
import Derived.ChangeOld
import Derived.Below
import Derived.SliceStrings
import Derived.SizedLaws
import Derived.ChangeMaps5
import Derived.Test.YbulkbcymLaw
namespace Go.Proofs.Ybulkbcym.lawS2703BInstalled
open Go.ChangeShapes Go.WideShapes Go.ChangeAt Go.RowKit
open Go.ChangeMaps (open_string shut_string)
set_option linter.unusedVariables false

theorem own : ownKnob Yba.prog.godebug = none := by kernel_rfl
theorem laidOut : laidOutB Yba.prog = true := by kernel_rfl

set_option maxRecDepth 100000 in
theorem walk_long (grp id : ByteArray) (me : Int) (a2 a3 : Option Addr) (n c2 n3 c3 : Nat) (w : World) (h1 : 1024 < n ∨ 1024 < n3) :
    Calls Yba.prog 3 #[.string grp, .string id, .slice a2 n c2, .slice a3 n3 c3, .int .u8 me] w fun e w' => e = .returned (.bool true) ∧ Below w.heap.size w w' := by
  by_cases hn : 1024 < n
  · have hd : (1024 : Int) < (n : Int) := by omega
    go_enter Yba.func3, Yba.ntmps3
    go_wp2
    go_ret
    exact ⟨rfl, Below.refl _ _⟩
  · have hd1 : decide ((1024 : Int) < (n : Int)) = false := by simp; omega
    have hd2 : (1024 : Int) < (n3 : Int) := by omega
    go_enter Yba.func3, Yba.ntmps3
    go_wp2
    go_ret
    exact ⟨rfl, Below.refl _ _⟩

theorem add_plain {W : World} {x : Addr} {v : Value} (h : W.cell? (x.add 0) = some v) : ∃ b off, x = ⟨b, off, none⟩ ∧ b < W.heap.size ∧ ∀ k u, W.cell? (x.add k) = some u → W.cell? ⟨b, off + k, none⟩ = some u := by
  obtain ⟨b, off, spot⟩ := x
  have hspot : spot = none := by simpa [Addr.add] using World.cell?_spot h
  subst hspot
  have hadd : ∀ k, (⟨b, off, none⟩ : Addr).add k = ⟨b, off + k, none⟩ := fun k => by unfold Addr.add; split <;> simp_all
  refine ⟨b, off, rfl, ?_, fun k u hk => by rw [hadd] at hk; exact hk⟩
  rw [hadd] at h
  exact World.block_lt_of_cell? W ⟨b, off + 0, none⟩ h

theorem walk (grp id : ByteArray) (a4 : Int) (w4 : (Lit.int .u8 a4).wf = true) (a2 a3 : Option Addr) (n c2 n3 c3 : Nat) (w : World)
    (r2 : (a2 = none ∧ n = 0) ∨ ∃ x, ∃ ss : List ByteArray, a2 = some x ∧ n ≤ ss.length ∧ (∀ i, i < ss.length → w.cell? (x.add i) = some (.string (ss.getD i ByteArray.empty))) ∧ (0 < n → (ss.getD 0 ByteArray.empty).size + 1 ≤ 9223372036854775807))
    (r3 : (a3 = none ∧ n3 = 0) ∨ ∃ x, ∃ zs : List Int, a3 = some x ∧ n3 ≤ zs.length ∧ (∀ i, i < zs.length → w.cell? (x.add i) = some (.int .u64 (zs.getD i 0))) ∧ ∀ n ∈ zs, (Lit.int .u64 n).wf = true) :
    Calls Yba.prog 3 #[.string grp, .string id, .slice a2 n c2, .slice a3 n3 c3, .int .u8 a4] w fun e w' => e = .returned (.bool true) ∧ Below w.heap.size w w' := by
  have b4 := bounds_u8 w4
  by_cases hl : n ≤ 1024 ∧ n3 ≤ 1024
  · obtain ⟨nm, hs, hx⟩ : ∃ nm : Nat → ByteArray, (∀ i, i < n → ∃ b off, a2 = some ⟨b, off, none⟩ ∧ b < w.heap.size ∧ w.cell? ⟨b, off + i, none⟩ = some (.string (nm i))) ∧ (0 < n → (nm 0).size + 1 ≤ 9223372036854775807) := by
      rcases r2 with ⟨_, rfl⟩ | ⟨x, ss, rfl, hn, hc, hw⟩
      · exact ⟨fun _ => ByteArray.empty, fun i hi => by omega, fun h => by omega⟩
      · refine ⟨fun i => ss.getD i ByteArray.empty, fun i hi => ?_, hw⟩
        have hci := hc i (by omega)
        obtain ⟨b, off, rfl, hb, hk⟩ := add_plain (hc 0 (by omega))
        exact ⟨b, off, rfl, hb, hk i _ hci⟩
    obtain ⟨z, hz⟩ : ∃ z : Nat → Int, ∀ i, i < n3 → ∃ b off, a3 = some ⟨b, off, none⟩ ∧ b < w.heap.size ∧ w.cell? ⟨b, off + i, none⟩ = some (.int .u64 (z i)) := by
      rcases r3 with ⟨_, rfl⟩ | ⟨x, zs, rfl, hn, hc, hw⟩
      · exact ⟨fun _ => 0, fun i hi => by omega⟩
      · refine ⟨fun i => zs.getD i 0, fun i hi => ?_⟩
        have hci := hc i (by omega)
        obtain ⟨b, off, rfl, hb, hk⟩ := add_plain (hc 0 (by omega))
        exact ⟨b, off, rfl, hb, hk i _ hci⟩
    exact Ybulkbcym.walk grp id a2 a3 n c2 n3 c3 nm z a4 w hl.1 hl.2 b4.1 b4.2 hs hz hx
  · exact walk_long grp id a4 a2 a3 n c2 n3 c3 w (by omega)

set_option maxRecDepth 100000 in
theorem lifted (os : Os) (started : os.Started) (H : Type) (enc : TypeId × Value → H) :
    ReturnsInHanded {} Yba.checked os 3 .any (Rows.lawS2703BInstalledSpec.pre6 enc Yba.prog Yba.f3 Rows.lawS2703BInstalledRow.domain false) (Rows.lawS2703BInstalledSpec.post enc Yba.prog Yba.f3 false true false false) := by
  refine returnsInHanded_of_change_sized (C := Yba.checked) own started (by kernel_rfl) Yba.func3
    (ChangeSpec.witness6 (enc := enc) (C := Yba.checked) false ⟨#[], #[.string ⟨#[]⟩, .string ⟨#[]⟩, .slice none 0 0, .slice none 0 0, .int .u8 0], []⟩ 8 (by kernel_rfl) (by kernel_rfl) (by kernel_rfl) (by kernel_rfl)) ?_
  intro W base args ds gs before hval0 hW hcnd hsz0 _
  have hval : ∀ (j : Nat) t v, Yba.f3.params[j]? = some t → args[j]? = some v → Value.okWide Yba.prog W .any base t v := hval0
  have hsz : (DataW.weightsEach Yba.prog (Yba.f3.params.toList ++ Rows.lawS2703BInstalledSpec.plain.varTypes Yba.prog) (ds ++ gs)).all (· ≤ reachBytes) = true := hsz0
  have hW' := hW
  obtain ⟨p, q, hA0, hV, rfl, hfz, hnd⟩ := hW
  have hA : DataW.TrodAll enc Yba.prog W 0 (fun _ => true) true Yba.f3.params.toList args.toList ds p := hA0
  rw [Yba.params3] at hA hval hsz
  obtain ⟨v0, vs0, d0, ds0, p0, q0, hargs, rfl, rfl, h0, r0⟩ := trodAll_cons hA
  obtain ⟨v1, vs1, d1, ds1, p1, q1, rfl, rfl, rfl, h1, r1⟩ := trodAll_cons r0
  obtain ⟨v2, vs2, d2, ds2, p2, q2, rfl, rfl, rfl, h2, r2⟩ := trodAll_cons r1
  obtain ⟨v3, vs3, d3, ds3, p3, q3, rfl, rfl, rfl, h3, r3⟩ := trodAll_cons r2
  obtain ⟨v4, vs4, d4, ds4, p4, q4, rfl, rfl, rfl, h4, r4⟩ := trodAll_cons r3
  obtain ⟨rfl, rfl, rfl⟩ := trodAll_nil r4
  obtain rfl : args = #[v0, v1, v2, v3, v4] := by cases args; simp_all
  obtain ⟨rfl, rfl⟩ := trodVars_none hV
  obtain ⟨s0, rfl, rfl, rfl, w0⟩ := open_string Yba.underlying9 (hval 0 9 v0 rfl rfl) h0
  obtain ⟨s1, rfl, rfl, rfl, w1⟩ := open_string Yba.underlying9 (hval 1 9 v1 rfl rfl) h1
  obtain ⟨a2, n2, c2, rfl⟩ := okWide_slice Yba.underlying22 (hval 2 22 v2 rfl rfl)
  obtain ⟨a3, n3, c3, rfl⟩ := okWide_slice Yba.underlying23 (hval 3 23 v3 rfl rfl)
  obtain ⟨a4, rfl, rfl, rfl, w4⟩ := open_int Yba.underlying5 (hval 4 5 v4 rfl rfl) h4
  have k2 := h2
  have k3 := h3
  have lt2 : ∀ x ∈ p2, x.block < W.heap.size := by obtain ⟨m, hm⟩ := k2; exact DataW.trod_lt m _ _ _ hm
  have lt3 : ∀ x ∈ p3, x.block < W.heap.size := by obtain ⟨m, hm⟩ := k3; exact DataW.trod_lt m _ _ _ hm
  have R2 : (a2 = none ∧ n2 = 0) ∨ ∃ x, ∃ ss : List ByteArray, a2 = some x ∧ n2 ≤ ss.length ∧ (∀ i, i < ss.length → W.cell? (x.add i) = some (.string (ss.getD i ByteArray.empty))) ∧ (0 < n2 → (ss.getD 0 ByteArray.empty).size + 1 ≤ 9223372036854775807) := by
    obtain ⟨fuel, hf⟩ := h2
    rcases open_strings Yba.underlying22 Yba.underlying9 (by kernel_rfl) hf with ⟨hcs, _⟩ | ⟨x, l, c, ss, hcs, _, hl, hm, hz, hx, hcell, hwz⟩
    · simp [Value.cells] at hcs
      obtain ⟨rfl, rfl, rfl⟩ := hcs
      exact .inl ⟨rfl, rfl⟩
    · simp [Value.cells] at hcs
      obtain ⟨rfl, rfl, rfl⟩ := hcs
      have hlen : ss.length = c2 := by simpa using hz
      refine .inr ⟨_, ss, rfl, by omega, hcell, fun hpos => ?_⟩
      have hd2 : d2 = .slice (strs (ss.take n2)) (strs (ss.drop n2)) := congrArg Prod.fst hx
      subst hd2
      obtain ⟨m, rfl⟩ : ∃ m, n2 = m + 1 := ⟨n2 - 1, by omega⟩
      cases ss with
      | nil => simp at hlen; omega
      | cons y r =>
        have hw := List.all_eq_true.1 hsz _ (DataW.weights_mem_each (j := 2) (t := 22) rfl rfl y.data.toList.length (by simp [DataW.weights, DataW.weightsAll, strs, Yba.underlying22]))
        have hw' : y.data.toList.length ≤ reachBytes := of_decide_eq_true hw
        show y.size + 1 ≤ _
        have hy : y.size = y.data.toList.length := rfl
        unfold reachBytes at hw'
        omega
  have R3 : (a3 = none ∧ n3 = 0) ∨ ∃ x, ∃ zs : List Int, a3 = some x ∧ n3 ≤ zs.length ∧ (∀ i, i < zs.length → W.cell? (x.add i) = some (.int .u64 (zs.getD i 0))) ∧ ∀ n ∈ zs, (Lit.int .u64 n).wf = true := by
    obtain ⟨fuel, hf⟩ := h3
    rcases open_ints Yba.underlying23 Yba.underlying25 (by kernel_rfl) hf with ⟨hcs, _⟩ | ⟨x, l, c, zs, hcs, _, hl, hm, hz, _, hcell, hwz⟩
    · simp [Value.cells] at hcs
      obtain ⟨rfl, rfl, rfl⟩ := hcs
      exact .inl ⟨rfl, rfl⟩
    · simp [Value.cells] at hcs
      obtain ⟨rfl, rfl, rfl⟩ := hcs
      exact .inr ⟨_, zs, rfl, by have : zs.length = c3 := by simpa using hz
                                 omega, hcell, hwz⟩
  clear hA0 hval0 hsz0 hsz
  refine (walk s0 s1 a4 w4 a2 a3 n2 c2 n3 c3 W R2 R3).mono fun e W' ⟨he, bel⟩ => ?_
  subst he
  exact ⟨_, rfl, _, _, _, [], _, [], hW', trodAll_mk1 (shut_bool Yba.underlying4 _), (trodAll_cons_mk (shut_string Yba.underlying9 w0) (trodAll_cons_mk (shut_string Yba.underlying9 w1) (trodAll_cons_mk (Below.trod laidOut (by kernel_rfl) (of_decide_eq_true (by kernel_rfl)) k2 bel lt2) (trodAll_cons_mk (Below.trod laidOut (by kernel_rfl) (of_decide_eq_true (by kernel_rfl)) k3 bel lt3) (trodAll_cons_mk (shut_int Yba.underlying5 w4) trodAll_mk0))))), rfl, bel.frame _, fun h => by cases h⟩

theorem over : Rows.lawS2703BInstalledRow.holds Yba.pinned (OpenSpec.ofChange Rows.lawS2703BInstalledSpec) :=
  OpenClaim.holds_of_wide 3 Yba.f3 rfl rfl rfl rfl rfl rfl rfl ⟨rfl, rfl, rfl, rfl, rfl⟩ rfl rfl rfl rfl rfl (by kernel_rfl) Yba.func3 (by kernel_rfl)
    (of_decide_eq_true (by kernel_rfl)) (by unfold Func.isWrapper; first | (rw [if_pos (by decide +kernel)]; kernel_rfl) | (rw [if_neg (by decide +kernel)]; exact ⟨rfl, rfl⟩))
    (fun os started H enc _ => lifted os started H enc)

/-- THE STATEMENT -/
theorem proved : Rows.LawS2703BInstalledSaid :=
  over
end Go.Proofs.Ybulkbcym.lawS2703BInstalled
