import Derived.Test.YbulkbcymProg
import Derived.WalkKit
import Derived.WalkSpells
import Derived.WalkLawsBesides
import Derived.Deep.QuietTactic
import Derived.BigQuiet
import Derived.BigRegion
namespace Go.Proofs.Ybulkbcym
open Go.RowKit

theorem clone_nil (w : World) : Calls Yba.prog 7 #[.slice none 0 0] w fun e w' => e = .returned (.slice none 0 0) ∧ w' = w := by
  have h := @Lib.run_eql_slice_nil Yba.prog
  go_enter Yba.func7, Yba.ntmps7
  go_wp2
  go_ret
  exact ⟨rfl, rfl⟩

theorem zero_time (x : Option Addr) (w : World) : Calls Yba.prog 6 #[.agg #[.int .u64 0, .int .i64 0, .pointer x]] w fun e w' => e = .returned (.bool true) ∧ Below w.heap.size w w' := by
  go_enter Yba.func6, Yba.ntmps6
  go_wp2
  go_ret
  exact ⟨rfl, (Below.refl _ _).alloc (Nat.le_refl _) _⟩

section
variable {P : Program} {ops : Array Oper} {Q : Exit → Act → World → Prop} {md : Region.Mode}

def unlisted (l : Array Bool) : Nat := (l.toList.filter fun b => !b).length

theorem unlisted_set (l : Array Bool) (i : Nat) (h : l.getD i true = false) : unlisted (l.setIfInBounds i true) + 1 = unlisted l := by
  have hi : i < l.size := by
    rcases Nat.lt_or_ge i l.size with h' | h'
    · exact h'
    · simp [Array.getElem?_eq_none h'] at h
  have hv : l.toList[i]? = some false := by
    rw [Array.getElem?_toList]
    simp [hi] at h
    simp [hi, h]
  have key : ∀ (l : List Bool) (i : Nat), l[i]? = some false → ((l.set i true).filter fun b => !b).length + 1 = (l.filter fun b => !b).length := by
    intro l
    induction l with
    | nil => intro i h; simp at h
    | cons x r ih =>
      intro i h
      cases i with
      | zero => simp at h; subst h; simp
      | succ i =>
        simp at h
        have := ih i h
        cases x <;> simp <;> omega
  have := key l.toList i hv
  unfold unlisted
  rw [Array.toList_setIfInBounds]
  exact this

/-- A REGION THAT DRAWS ITS ORDER, BY AN INVARIANT: whatever comes up next keeps it; when all has come up it gives the end. The operations' edges lead backward. -/
theorem wpAny_inv (J : Array Bool → Act → World → Prop) (hb : ∀ (i : Nat) (o : Oper), ops[i]? = some o → ∀ e ∈ o.after, e.on < i)
    (hsize : ∀ l a w, J l a w → l.size = ops.size)
    (step : ∀ (l : Array Bool) (a : Act) (w : World) (i : Nat) (o : Oper), J l a w → l.getD i true = false → ops[i]? = some o → (∀ e ∈ o.after, Region.binds md e = true → l.getD e.on false = true) → wpOp P ops Q i (fun a' w' => J (l.setIfInBounds i true) a' w') a w)
    (fin : ∀ l a w, J l a w → (∀ i, i < ops.size → l.getD i false = true) → Q .normal a w) :
    ∀ (fuel : Nat) (l : Array Bool) (a : Act) (w : World), J l a w → unlisted l ≤ fuel → wpAny P md ops Q fuel l a w := by
  have done : ∀ l a w, J l a w → Region.ready md ops l = [] → ∀ i, i < ops.size → l.getD i false = true := by
    intro l a w hJ hr
    have hs := hsize l a w hJ
    intro i
    induction i using Nat.strongRecOn with
    | _ i ih =>
      intro hi
      cases hv : l.getD i false with
      | true => rfl
      | false =>
        exfalso
        have hm : i ∈ Region.ready md ops l := by
          rw [mem_ready]
          refine ⟨by simp [show i < l.size by omega] at hv ⊢; exact hv, ops[i], Array.getElem?_eq_getElem hi, fun e he _ => ih e.on ?_ ?_⟩
          · exact hb i _ (Array.getElem?_eq_getElem hi) e he
          · have := hb i _ (Array.getElem?_eq_getElem hi) e he
            omega
        rw [hr] at hm
        cases hm
  intro fuel
  induction fuel with
  | zero =>
    intro l a w hJ hf
    have hr : Region.ready md ops l = [] := by
      cases h : Region.ready md ops l with
      | nil => rfl
      | cons i r =>
        have hm : i ∈ Region.ready md ops l := by rw [h]; simp
        have := unlisted_set l i (mem_ready.1 hm).1
        omega
    exact ⟨hr, fin l a w hJ (done l a w hJ hr)⟩
  | succ fuel ih =>
    intro l a w hJ hf
    refine ⟨fun hr => fin l a w hJ (done l a w hJ hr), fun i hi => ?_⟩
    obtain ⟨h1, o, ho, h2⟩ := mem_ready.1 hi
    refine wpOp_mono (fun a' w' hJ' => ih _ a' w' hJ' ?_) (step l a w i o hJ h1 ho h2)
    have := unlisted_set l i h1
    omega

theorem wpOp_value {i : Nat} {o : Oper} {a : Act} {w w' : World} {v : Value} {K : Act → World → Prop} (hi : ops[i]? = some o) (hg : o.guard = none)
    (hr : (execOp a.eval o).run P w = .ok (.value v) w') (h : K (a.put o.dst v) w') : wpOp P ops Q i K a w := by
  unfold wpOp
  simp only [hi, Region.wanted, hg, if_true]
  refine .inl ?_
  unfold Oper.wp
  rw [hr]
  exact h

theorem wpOp_call {i : Nat} {o : Oper} {a : Act} {w : World} {f : FuncId} {args : Array Value} {v : Value} {K : Act → World → Prop} (hi : ops[i]? = some o) (hg : o.guard = none)
    (hr : (execOp a.eval o).run P w = .ok (.enter f args) w) (hc : Calls P f args w fun e w' => e = .returned v ∧ w' = w) (h : K (a.put o.dst v) w) : wpOp P ops Q i K a w := by
  unfold wpOp
  simp only [hi, Region.wanted, hg, if_true]
  refine .inl ?_
  unfold Oper.wp
  rw [hr]
  refine Calls.mono hc ?_
  rintro e w' ⟨rfl, rfl⟩
  exact h

end
end Go.Proofs.Ybulkbcym
