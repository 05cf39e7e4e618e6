import Derived.Test.YbulkbcxkReusePre
import Derived.Deep.QuietTactic
import Derived.BigQuiet
namespace Go.Proofs.Ybulkbcxk
open Go.RowKit
open Go.ChangeMaps (setBlock)
namespace Reuse

theorem assert57_yes (W : World) (x : Value) : (Instr.typeAssert (.iface 57 x) 73 57 true).run Yba.prog W = .ok (.tuple #[x, .bool true]) W := by kernel_rfl

set_option maxRecDepth 100000 in
set_option maxHeartbeats 4000000 in
theorem walk (p0 : Int) (hp0 : 0 ≤ p0) (hp1 : p0 ≤ 255) (a1 a2 : Option Addr) (n1 c1 n2 c2 : Nat) (z : Nat → Int) (f : Nat → Bool) (w : World) (h1 : n1 ≤ 1024) (_h2 : n2 ≤ 9223372036854775807)
    (hz : ∀ i, i < n1 → ∃ b off, a1 = some ⟨b, off, none⟩ ∧ b < w.heap.size ∧ w.cell? ⟨b, off + i, none⟩ = some (.int .u8 (z i)) ∧ 0 ≤ z i ∧ z i ≤ 255)
    (hf : ∀ i, i < n2 → ∃ b off, a2 = some ⟨b, off, none⟩ ∧ b < w.heap.size ∧ w.cell? ⟨b, off + i, none⟩ = some (.bool (f i))) :
    Calls Yba.prog 3 #[.int .u8 p0, .slice a1 n1 c1, .slice a2 n2 c2] w fun e w' => e = .returned (.bool true) ∧ Below w.heap.size w w' := by
  have hnp0 : 0 ≤ p0 % 4 := by omega
  have hnp3 : p0 % 4 ≤ 3 := by omega
  have hps := pre_start w
  have hd : decide ((1024 : Int) < (n1 : Int)) = false := by simp; omega
  obtain ⟨i, hi, hz0, hz1, hz2⟩ := info_parts info73
  go_enter Yba.func3, Yba.ntmps3
  go_wp2
  go_loopw [9] (fun i wr => ∃ ps : List Nat, (ps.length : Int) ≤ p0 % 4 ∧ i = .int .i64 ps.length ∧ Pre w wr ps) (fun i _ => (p0 % 4).toNat - (intOf i).toNat)
  case atStart => exact ⟨[], hnp0, rfl, hps⟩
  case round =>
    obtain ⟨ps, hk, rfl, hpre⟩ := hrel
    obtain ⟨v, hT, hown⟩ := hpre.tx
    have hTc := tx_cell hT
    have hlt := lt_of_block hT
    by_cases hlen : (ps.length : Int) < p0 % 4
    · have HP : Hid _ := hpre
      have HT : Hid _ := hT
      clear hT hps hpre hz hf
      go_wp2_with (at_builtin; refine wpList_append_own _ rfl (.tmp 43) (.tmp 48) 54 rfl (w.heap.size + 1) 73 i .nilIface 1 16 Yba.underlying54 hi hz0 hz1 hz2 rfl (by decide) v ps.length _ rfl ((hown.alloc _).alloc _) ⟨wr.heap.size + 1, 0, none⟩ 1 1 [.iface 57 (.pointer (some ⟨wr.heap.size, 0, none⟩))] rfl rfl ?c1 ?c2 (by unfold maxLen; omega) (by omega) (by simp; omega) ?_)
      case c1 => simpa using cell_one_new (wr.alloc (.cells #[.int .i64 ps.length] 59)) (.iface 57 (.pointer (some ⟨wr.heap.size, 0, none⟩))) 73
      case c2 => intro u hu; simp at hu; subst hu; rfl
      intro v' W1 hown' hgrow _
      have R : Hid _ := pre_step HP.out HT.out hown hgrow hown'
      obtain ⟨g', cap', hv'⟩ := shape_of hown'
      have hT1 : W1.heap[w.heap.size]? = some (.cells (txArr v) 56) := blk_grown (heap_alloc_lt _ (heap_alloc_lt _ HT.out)) hgrow (own_ne hown HT.out (by intro c; simp))
      have hc1 := tx_cell hT1
      have hf1 := tx_free hT1
      clear hgrow hown' hown HT HP hT1
      rw [hv'] at R ⊢
      clear hv'
      go_wp2
      go_roundw
      case rel => exact ⟨ps ++ [wr.heap.size], by simp; omega, by simp, R.out⟩
      case measure => simp [intOf]; omega
    · have e : p0 % 4 = (ps.length : Int) := by omega
      have hst := st_start hpre (by omega)
      have HE : Hid _ := e
      clear hT hps hpre hown hTc v e
      have hlt' := hst.lt
      go_wp2
      generalize hS : wr.heap.size = S at *
      clear hS
      go_loopw [12, 54] (fun d i wr => ∃ (k M : Nat) (l : List (ByteArray × Nat)) (fl : Nat → Bool), k ≤ n1 ∧ i = .int .i64 k ∧ d = .int .i64 l.length ∧ l.length ≤ k ∧ St w wr ps S (S + 1) M (decide (0 < k)) l (fun k => look (nm k) l) fl fl) (fun _ i _ => n1 - (intOf i).toNat)
      case atStart => exact ⟨0, 0, [], _, Nat.zero_le _, rfl, rfl, Nat.le_refl _, hst⟩
      case round =>
        clear hst
        rename_i wr0 wr
        obtain ⟨k, M, l, fl, hk, rfl, rfl, hlk, hst⟩ := hrel
        by_cases hkn : k < n1
        · obtain ⟨b1, off1, ha1, hb1, hx, hx0, hx1⟩ := hz k hkn
          subst ha1
          generalize z k = x at hx hx0 hx1
          have hxc : wr.cell? ⟨b1, off1 + k, none⟩ = some (.int .u8 x) := (hst.below.cell (p := ⟨b1, off1 + k, none⟩) hb1).trans hx
          have hj : (x % 5).toNat < 5 := by omega
          have hjn : nm (x % 5) = nm (((x % 5).toNat : Nat) : Int) := by rw [Int.toNat_of_nonneg (by omega)]
          cases hlk' : look (nm (((x % 5).toNat : Nat) : Int)) l with
          | some b =>
            have C : Hid (Calls Yba.prog 5 #[.pointer (some ⟨w.heap.size, 0, none⟩), .string (nm (x % 5))] wr fun e w' => e = .returned (.pointer (some ⟨b, 0, none⟩)) ∧ w' = wr) := by
              rw [hjn]; exact inv_found hst hlk'
            obtain ⟨s1, s2⟩ := hst.seenCell hj
            obtain ⟨f1, f2⟩ := hst.flagCell hj
            obtain ⟨c1', c2', c3', c4'⟩ := hst.chgCell hj hlk'
            have n1' := ne60_same
            have hi0 : 0 ≤ x % 5 := by omega
            have hi5 : x % 5 < 5 := by omega
            simp only [hlk', ptr] at s1
            have HST : Hid _ := hst
            have HL : Hid _ := hlk'
            have HF : Hid _ := hf
            clear hst hlk' hjn hz hf hx
            go_wp2_with (first | (go_at_call 6; refine (name_any _ (by assumption) (by assumption) _).mono ?_; rintro e w' ⟨rfl, rfl⟩))
            refine Calls.mono C.out ?_
            rintro e w' ⟨rfl, rfl⟩
            by_cases hkf : k < n2
            · obtain ⟨b2, off2, ha2, hb2, hy⟩ := HF.out k hkf
              subst ha2
              have hyc : w'.cell? ⟨b2, off2 + k, none⟩ = some (.bool (f k)) := (HST.out.below.cell (p := ⟨b2, off2 + k, none⟩) hb2).trans hy
              have R : Hid _ := round_found (x := f k) HST.out hj HL.out
              clear HF hy C
              go_wp2
              go_quiet (fail)
              go_wp2
              go_roundw
              case rel => exact ⟨k + 1, M, l, _, by omega, by go_num, rfl, by omega, R.out nq⟩
              case measure => simp [intOf]; omega
            · have R : Hid _ := round_found (x := false) HST.out hj HL.out
              have hdf : decide ((k : Int) < (n2 : Int)) = false := by simp; omega
              clear HF C
              go_wp2
              go_quiet (fail)
              go_wp2
              go_roundw
              case rel => exact ⟨k + 1, M, l, _, by omega, by go_num, rfl, by omega, R.out nq⟩
              case measure => simp [intOf]; omega
          | none =>
            have C : Hid (Calls Yba.prog 5 #[.pointer (some ⟨w.heap.size, 0, none⟩), .string (nm (x % 5))] wr fun e w' => ∃ M' b, e = .returned (.pointer (some ⟨b, 0, none⟩)) ∧ wr.heap.size ≤ b ∧
                St w w' ps S (S + 1) M' true (l ++ [(nm (((x % 5).toNat : Nat) : Int), b)]) (fun k => look (nm k) l) (upd fl (x % 5).toNat false) fl ∧ w'.heap[b]? = some (.cells #[.bool false, .slice none 0 0, .slice none 0 0] 70)) := by
              rw [hjn]; exact st_new hst hj hlk'
            have HL : Hid _ := hlk'
            have HF : Hid _ := hf
            clear hst hlk' hjn hz hf hx
            go_wp2_with (first | (go_at_call 6; refine (name_any _ (by assumption) (by assumption) _).mono ?_; rintro e w' ⟨rfl, rfl⟩))
            refine Calls.mono C.out ?_
            rintro e w2 ⟨M', b, rfl, hbz, hst, hN⟩
            clear C
            obtain ⟨s1, s2⟩ := hst.seenCell hj
            simp only [HL.out, ptr] at s1
            have hN0 : w2.cell? ⟨b, 0, none⟩ = some (.bool false) := by simp [World.cell?, hN]
            have hN1 : w2.cell? ⟨b, 1, none⟩ = some (.slice none 0 0) := by simp [World.cell?, hN]
            have hN2 : w2.cell? ⟨b, 2, none⟩ = some (.slice none 0 0) := by simp [World.cell?, hN]
            have HST : Hid _ := hst
            have HN : Hid _ := hN
            clear hst hN hbz
            go_wp2
            go_loop [17] (fun t => ∃ m : Nat, m ≤ 5 ∧ t = .int .i64 m) (fun t => 5 - (intOf t).toNat)
            case atStart => exact ⟨0, by omega, rfl⟩
            case round =>
              obtain ⟨m, hm, rfl⟩ := hrel
              by_cases hm5 : m < 5
              · obtain ⟨t1, -⟩ := HST.out.seenCell hm5
                have t2 := seen_other HST.out hj hm5 HL.out HN.out
                obtain ⟨ad, had⟩ := ptr_form (look (nm m) l)
                simp only [had] at t1 t2
                clear had
                go_wp2
                go_round
                case rel => exact ⟨m + 1, by omega, by go_num⟩
                case measure => simp [intOf]; omega
              · obtain ⟨f1, f2⟩ := HST.out.flagCell hj
                have hbb : look (nm (((x % 5).toNat : Nat) : Int)) (l ++ [(nm (((x % 5).toNat : Nat) : Int), b)]) = some b := by rw [look_snoc, HL.out]; simp
                obtain ⟨-, c2', c3', c4'⟩ := HST.out.chgCell hj hbb
                have c5' : ¬ S + 1 = S := by omega
                clear hbb
                by_cases hkf : k < n2
                · obtain ⟨b2, off2, ha2, hb2, hy⟩ := HF.out k hkf
                  subst ha2
                  have hyc : w2.cell? ⟨b2, off2 + k, none⟩ = some (.bool (f k)) := (HST.out.below.cell (p := ⟨b2, off2 + k, none⟩) hb2).trans hy
                  have hb2S : ¬ S = b2 := by have := HST.out.hS; omega
                  have hb2b : ¬ b = b2 := by have := (HST.out.chg _ hj b (by rw [look_snoc, HL.out]; simp)).1; omega
                  have R : Hid _ := round_new (k := k) (x := f k) HST.out hj HL.out
                  clear HF hy HN
                  go_wp2
                  go_roundw
                  case rel => exact ⟨k + 1, M', _, _, by omega, by go_num, by simp, by simp; omega, R.out⟩
                  case measure => simp [intOf]; omega
                · have R : Hid _ := round_new (k := k) (x := false) HST.out hj HL.out
                  have hdf : decide ((k : Int) < (n2 : Int)) = false := by simp; omega
                  clear HF HN
                  go_wp2
                  go_roundw
                  case rel => exact ⟨k + 1, M', _, _, by omega, by go_num, by simp, by simp; omega, R.out⟩
                  case measure => simp [intOf]; omega
        · have hke : k = n1 := by omega
          subst hke
          obtain ⟨ao, cap, hT, hcells⟩ := hst.rowAny
          have he := HE.out
          have hbel := hst.below
          have a3 := assert57_yes
          by_cases h0 : k = 0
          · subst h0
            have hq : ((ps.length : Int) != p0 % 4) = false := by rw [he]; simp
            simp only [Nat.lt_irrefl, decide_false, Bool.false_eq_true, if_false, Nat.add_zero] at hT
            have HC : Hid _ := hcells
            have HB : Hid _ := hbel
            clear hst hcells hz hf he hlk hbel
            go_wp2
            go_loop [20] (fun t => ∃ m : Nat, (m : Int) ≤ p0 % 4 ∧ t = .int .i64 m) (fun t => (p0 % 4).toNat - (intOf t).toNat)
            case atStart => exact ⟨0, hnp0, rfl⟩
            case round =>
              obtain ⟨m, hm, rfl⟩ := hrel
              by_cases hm5 : (m : Int) < p0 % 4
              · obtain ⟨G, p, ha, hc, hp⟩ := HC.out m (by have := HE.out; omega)
                subst ha
                have hml : (m : Int) < (ps.length : Int) := by have := HE.out; omega
                go_wp2
                go_round
                case rel => exact ⟨m + 1, by omega, by go_num⟩
                case measure => simp [intOf]; omega
              · go_wp2
                go_ret
                exact ⟨rfl, HB.out⟩
          · have hpos : (0 : Int) < (k : Int) := by omega
            have hne0 : ((k : Int) == 0) = false := by simp; omega
            have hon : decide (0 < k) = true := by simp; omega
            rw [hon] at hst
            obtain ⟨G, cap', hT', hMc, -⟩ := hst.row
            have hq : ((ps.length : Int) + 1 != p0 % 4 + 1) = false := by rw [he]; simp
            simp only [hon, if_true] at hT
            rw [hT] at hT'
            obtain ⟨rfl, rfl⟩ : ao = some ⟨G, 0, none⟩ ∧ cap = cap' := by simpa using hT'
            have hMc' : wr.cell? ⟨G, (p0 % 4).toNat, none⟩ = some (.iface 75 (.map (some M))) := by rw [he, Int.toNat_natCast]; exact hMc
            have hM := (hst.mp rfl).1
            have hlt1 : p0 % 4 < (ps.length : Int) + 1 := by omega
            have hlen := run_maplen wr M l 3 hM
            have a4 := assert_yes
            have HC : Hid _ := hcells
            have HB : Hid _ := hbel
            have HST : Hid _ := hst
            clear hst hcells hz hf he hlk hbel hT' hMc hM
            go_wp2
            go_loop [20] (fun t => ∃ m : Nat, (m : Int) ≤ p0 % 4 ∧ t = .int .i64 m) (fun t => (p0 % 4).toNat - (intOf t).toNat)
            case atStart => exact ⟨0, hnp0, rfl⟩
            case round =>
              obtain ⟨m, hm, rfl⟩ := hrel
              by_cases hm5 : (m : Int) < p0 % 4
              · obtain ⟨G', p, ha, hc, hp⟩ := HC.out m (by have := HE.out; omega)
                obtain rfl : G = G' := by simpa using ha
                have hml : (m : Int) < (ps.length : Int) + 1 := by have := HE.out; omega
                clear hMc' hlen
                go_wp2
                go_round
                case rel => exact ⟨m + 1, by omega, by go_num⟩
                case measure => simp [intOf]; omega
              · go_wp2
                go_loopw [25] (fun t w5 => ∃ i : Nat, i ≤ 5 ∧ t = .int .i64 i ∧ St w w5 ps S (S + 1) M true l (fun k => look (nm k) l) fl fl) (fun t _ => 5 - (intOf t).toNat)
                case atStart => exact ⟨0, by omega, rfl, HST.out⟩
                case round =>
                  clear HST HC hMc' hT hlen HB
                  obtain ⟨i, hi5, rfl, hst⟩ := hrel
                  by_cases hlt5 : i < 5
                  · have hm5' : (i : Int) % 5 = (i : Int) := by omega
                    have hi0 : (0 : Int) ≤ (i : Int) := by omega
                    have hi6 : (i : Int) < 5 := by omega
                    have hwr : IntKind.u8.wrap (i : Int) = (i : Int) := by simp [IntKind.wrap, IntKind.bits, IntKind.signed]; omega
                    obtain ⟨t1, -⟩ := hst.seenCell hlt5
                    have HST : Hid _ := hst
                    clear HE
                    cases hl : look (nm i) l with
                    | none =>
                      simp only [hl, ptr] at t1
                      clear hl hst
                      go_wp2
                      go_quiet (fail)
                      go_wp2
                      go_roundw
                      case rel => exact ⟨i + 1, by omega, by go_num, HST.out.drewN nq⟩
                      case measure => simp [intOf]; omega
                    | some b =>
                      simp only [hl, ptr] at t1
                      have n1' := ne60_same
                      have hlk := fun n' => run_look_hit (wr.drewN n') M b l (nm i) (hst.mp rfl).1 hl
                      clear hl hst
                      go_wp2
                      go_quiet ((go_at_call 6; exact Calls.quiet_of_same (name_any _ (by omega) (by omega) _)))
                      go_wp2
                      go_roundw
                      case rel => exact ⟨i + 1, by omega, by go_num, HST.out.drewN nq⟩
                      case measure => simp [intOf]; omega
                  · have HB : Hid _ := hst.below
                    clear hst
                    go_wp2
                    go_ret
                    exact ⟨rfl, HB.out⟩

end Reuse
end Go.Proofs.Ybulkbcxk
