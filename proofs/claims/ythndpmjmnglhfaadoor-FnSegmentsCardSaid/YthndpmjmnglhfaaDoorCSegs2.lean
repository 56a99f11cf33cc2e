/- Contracts and plain lemmas of this seat (part 2), merged by wip/merge.py; what is proved stands in the claim's last text. -/
import Derived.Test.YthndpmjmnglhfaaDoorCSegs1
namespace Go.Proofs.YthndpmjmnglhfaaDoor.Core
open Go.RowKit Go.Proofs.YthndpmjmnglhfaaDoorW.PrintWords Go.Proofs.YthndpmjmnglhfaaDoorW.PrintLast Go.Proofs.YthndpmjmnglhfaaDoorW.PrintMore
attribute [local go_sem] max2_int min2_int max_two min_two max_three min_three max_four min_four   -- for this text's walks alone
set_option linter.unusedVariables false
set_option linter.unusedSimpArgs false

/-! ### spec_Text: function 8 -/
mutual
def spec_Text.l0 : Nat → ByteArray → List (List (S41)) → Int → Int → List (List (S41)) → Bool → Option (ByteArray)
  | 0, _, _, _, _, _, _ => none
  | k + 1, x3, x7, x8, x9, x224000, x224001 => if x9 < x8 then (if 0 ≤ x9 then (if x9 < (x7.length : Int) then (if x9 = 0 then (spec_Text.j1 k x3 (rd_L5 x7 x9) x7 x8 x9 (!x224001) x224000 x224001) else (spec_Text.j1 k x3 (rd_L5 x7 x9) x7 x8 x9 false x224000 x224001)) else (none)) else (none)) else (some x3)
def spec_Text.j1 : Nat → ByteArray → List (S41) → List (List (S41)) → Int → Int → Bool → List (List (S41)) → Bool → Option (ByteArray)
  | 0, _, _, _, _, _, _, _, _ => none
  | k + 1, x3, x5, x7, x8, x9, x20, x224000, x224001 => if x20 = true then (spec_Text.l0 k x3 x7 x8 (wrap64 (x9 + 1)) x224000 x224001) else (if x3.toList = ([] : List UInt8) then ((spec_FieldText.f k x5).bind fun t225 => (if x3.size + t225.size ≤ 9223372036854775807 then (spec_Text.l0 k (x3 ++ t225) x7 x8 (wrap64 (x9 + 1)) x224000 x224001) else (none))) else (if x3.size + 1 ≤ 9223372036854775807 then ((spec_FieldText.f k x5).bind fun t226 => (if (x3 ++ (⟨#[32]⟩ : ByteArray)).size + t226.size ≤ 9223372036854775807 then (spec_Text.l0 k ((x3 ++ (⟨#[32]⟩ : ByteArray)) ++ t226) x7 x8 (wrap64 (x9 + 1)) x224000 x224001) else (none))) else (none)))
end
def spec_Text.f (k : Nat) (l0_0 : List (List (S41))) (a0_1 : Bool) : Option (ByteArray) := spec_Text.l0 k (⟨#[]⟩ : ByteArray) l0_0 (l0_0.length : Int) 0 l0_0 a0_1
theorem spec_Text.mono_l : ∀ k, (∀ y0 y1 y2 y3 y4 y5, LeO (spec_Text.l0 k y0 y1 y2 y3 y4 y5) (spec_Text.l0 (k + 1) y0 y1 y2 y3 y4 y5)) ∧ (∀ y0 y1 y2 y3 y4 y5 y6 y7, LeO (spec_Text.j1 k y0 y1 y2 y3 y4 y5 y6 y7) (spec_Text.j1 (k + 1) y0 y1 y2 y3 y4 y5 y6 y7))
  | 0 => ⟨fun _ _ _ _ _ _ r h => by simp [spec_Text.l0] at h, fun _ _ _ _ _ _ _ _ r h => by simp [spec_Text.j1] at h⟩
  | k + 1 => by
    obtain ⟨ih0, ih1⟩ := spec_Text.mono_l k
    refine ⟨?_, ?_⟩
    · intro y0 y1 y2 y3 y4 y5
      unfold spec_Text.l0
      repeat' first
      | (with_reducible exact ih0 _ _ _ _ _ _)
      | (with_reducible exact ih1 _ _ _ _ _ _ _ _)
      | (with_reducible exact spec_FieldText.mono _ _)
      | (with_reducible exact LeO.refl _)
      | (with_reducible exact LeO.none _)
      | (with_reducible refine LeO.ite ?_ ?_)
      | (with_reducible refine LeO.bind ?_ (fun _ => ?_))
      | exact ih0 _ _ _ _ _ _
      | exact ih1 _ _ _ _ _ _ _ _
      | exact spec_FieldText.mono _ _
      | exact LeO.none _
      | refine LeO.ite ?_ ?_
      | refine LeO.bind ?_ (fun _ => ?_)
    · intro y0 y1 y2 y3 y4 y5 y6 y7
      unfold spec_Text.j1
      repeat' first
      | (with_reducible exact ih0 _ _ _ _ _ _)
      | (with_reducible exact ih1 _ _ _ _ _ _ _ _)
      | (with_reducible exact spec_FieldText.mono _ _)
      | (with_reducible exact LeO.refl _)
      | (with_reducible exact LeO.none _)
      | (with_reducible refine LeO.ite ?_ ?_)
      | (with_reducible refine LeO.bind ?_ (fun _ => ?_))
      | exact ih0 _ _ _ _ _ _
      | exact ih1 _ _ _ _ _ _ _ _
      | exact spec_FieldText.mono _ _
      | exact LeO.none _
      | refine LeO.ite ?_ ?_
      | refine LeO.bind ?_ (fun _ => ?_)
theorem spec_Text.mono : ∀ a0 a1 k, LeO (spec_Text.f k a0 a1) (spec_Text.f (k + 1) a0 a1) := by
  intro a0 a1 k
  obtain ⟨ih0, ih1⟩ := spec_Text.mono_l k
  unfold spec_Text.f
  repeat' first
      | (with_reducible exact ih0 _ _ _ _ _ _)
      | (with_reducible exact ih1 _ _ _ _ _ _ _ _)
      | (with_reducible exact spec_FieldText.mono _ _)
      | (with_reducible exact LeO.refl _)
      | (with_reducible exact LeO.none _)
      | (with_reducible refine LeO.ite ?_ ?_)
      | (with_reducible refine LeO.bind ?_ (fun _ => ?_))
      | exact ih0 _ _ _ _ _ _
      | exact ih1 _ _ _ _ _ _ _ _
      | exact spec_FieldText.mono _ _
      | exact LeO.none _
      | refine LeO.ite ?_ ?_
      | refine LeO.bind ?_ (fun _ => ?_)
set_option maxHeartbeats 8000000 in
set_option maxRecDepth 100000 in
theorem spec_Text.calls (k : Nat) (A0_0 : Option Addr) (c0_0 : Nat) (l0_0 : List (List (S41))) (a0_1 : Bool) (r : ByteArray) (w : World) (hr0_0 : Kd.C (Kd.slice 41 k41) w A0_0 l0_0.length l0_0) (hc0_0 : l0_0.length ≤ c0_0) (h : spec_Text.f k l0_0 a0_1 = some r) :
    Calls Tryd.prog 8 #[.agg #[.slice A0_0 l0_0.length c0_0, .bool a0_1]] w fun e w' => e = .returned (.string r) ∧ Below w.heap.size w w' := by
  have hu28 := Tryd.underlying28
  have HR0_0 := Aside0.mk hr0_0
  have HC0_0 := Aside0.mk hc0_0
  clear hr0_0 hc0_0
  have HB := Aside0.mk (Below.refl w.heap.size w)
  have H : (spec_Text.l0 k (⟨#[]⟩ : ByteArray) l0_0 (l0_0.length : Int) 0 l0_0 a0_1) = some r := h
  clear h
  have H' := Aside0.mk H
  clear H
  go_enter Tryd.func8, Tryd.ntmps8
  go_wp2_with (first | ((with_reducible refine gate_dst (N := 1) rfl ?_); refine box_event ?hg (N := 1) ?hd (cs := #[.slice A0_0 l0_0.length c0_0, .bool a0_1]) (t := 28) ?hr ?_; (case hd => rfl); (case hg => rfl); (case hr => first | (go_simp; done) | (go_simp; rfl)); intro gb223 hg w2 hbox hb; have n0_ := Aside0.mk (below_step (by repeat (first | (with_reducible first | exact HB.out | apply below_alloc | apply pw_below_drewN | apply below_drew1) | exact HB.out)) hb); have n1_ := Aside0.mk (hbox); have n2_ := Aside0.mk ((by rw [hg]; exact (below_size (by repeat (first | (with_reducible first | exact HB.out | apply below_alloc | apply pw_below_drewN | apply below_drew1) | exact HB.out))) : w.heap.size ≤ gb223)); have n3_ := Aside0.mk ((by rw [hg]; exact (below_size (by repeat (first | (with_reducible first | exact HB.out | apply below_alloc | apply pw_below_drewN | apply below_drew1) | exact HB.out))) : w.heap.size ≤ gb223)); clear HB; have HB := n0_; have BK223 := n1_; have GW223 := n2_; have GE223 := n3_; clear n0_ n1_ n2_ n3_; clear hb hbox hg; have hcz3_0 : w2.cell? ⟨gb223, 0, none⟩ = some (.slice A0_0 l0_0.length c0_0) := (blk_cell BK223.out 0).trans rfl; have hcz3_1 : w2.cell? ⟨gb223, 1, none⟩ = some (.bool a0_1) := (blk_cell BK223.out 1).trans rfl; have hfz3_0 := blk_frozen BK223.out 0; have hfz3_1 := blk_frozen BK223.out 1))
  go_loopg [3, 9] k (fun kq v3 v9 w' => ∃ (x3_1 : ByteArray) (x9_1 : Int), v3 = .string x3_1 ∧ v9 = .int .i64 x9_1 ∧ Aside0 (spec_Text.l0 kq x3_1 l0_0 (l0_0.length : Int) x9_1 l0_0 a0_1 = some r) ∧ Aside0 (kq ≤ k) ∧ Aside0 (w'.heap[gb223]? = some (.cells #[(.slice A0_0 l0_0.length c0_0), .bool a0_1] 28 (0, 0))) ∧ Aside0 (Below w.heap.size w w'))
  case atStart => exact ⟨((⟨#[]⟩ : ByteArray)), (0), (by first | rfl | (simp; done) | (simp [*]; done)), (by first | rfl | (simp; done) | (simp [*]; done)), H', ⟨Nat.le_refl _⟩, ⟨by (with_reducible repeat (first | refine blk_drewN ?_ _ | refine blk_drew ?_ | refine blk_alloc ?_ _)); exact BK223.out⟩, ⟨by repeat (first | (with_reducible first | exact HB.out | apply below_alloc | apply pw_below_drewN | apply below_drew1 | refine below_set ?_ GE223.out) | exact HB.out)⟩⟩
  case round =>
    clear H'
    try clear p2
    try clear hcz3_0
    try clear hcz3_1
    try clear hfz3_0
    try clear hfz3_1
    obtain ⟨x3_1, x9_1, rfl, rfl, HA, HK1, BK223, HB⟩ := hrel
    cases gk with
    | zero => exact absurd HA.out (by simp [spec_Text.l0])
    | succ k1 =>
      have H := HA.out
      clear HA
      simp only [spec_Text.l0] at H
      by_cases c4 : x9_1 < (l0_0.length : Int)
      · rw [if_pos c4] at H
        have c4b0 : decide (x9_1 < (l0_0.length : Int)) = true := decide_eq_true c4
        clear c4
        by_cases c5 : 0 ≤ x9_1
        · rw [if_pos c5] at H
          have c5b0 : decide (0 ≤ x9_1) = true := decide_eq_true c5
          clear c5
          by_cases c6 : x9_1 < (l0_0.length : Int)
          · rw [if_pos c6] at H
            have c6b0 : decide (x9_1 < (l0_0.length : Int)) = true := decide_eq_true c6
            clear c6
            have HC7 := Aside0.mk H
            clear H
            have p224 : 0 ≤ (x9_1 : Int) := of_decide_eq_true (by first | (with_reducible assumption) | assumption)
            have q224 : x9_1 < (l0_0.length : Int) := of_decide_eq_true (by first | (with_reducible assumption) | assumption)
            obtain ⟨ad224, A224_0, c224_0, e224, hx224_0, hl224_0, hi224_0⟩ := at_L5 HR0_0.out x9_1 p224 q224
            cases e224
            replace hx224_0 := (HB.out.cell (World.block_lt_of_cell? w _ hx224_0)).trans hx224_0
            have HR224_0 := Aside0.mk hi224_0
            have HC224_0 := Aside0.mk hl224_0
            clear hi224_0 hl224_0
            replace p224 := eq_true p224
            replace q224 := eq_true q224
            go_upto_region 5 with (fail)
            go_cut [20] (fun v20 wc => ∃ (kq : Nat) (x20_6 : Bool), v20 = .bool x20_6 ∧ Aside0 (spec_Text.j1 kq x3_1 (rd_L5 l0_0 x9_1) l0_0 (l0_0.length : Int) x9_1 x20_6 l0_0 a0_1 = some r) ∧ Aside0 (kq ≤ k1) ∧ Aside0 (wc.heap[gb223]? = some (.cells #[(.slice (some ad224) l0_0.length c0_0), .bool a0_1] 28 (0, 0))) ∧ Aside0 (Below w.heap.size w wc))
            case first =>
              have H := HC7.out
              clear HC7
              by_cases c8 : x9_1 = 0
              · rw [if_pos c8] at H
                have c8b0 : (x9_1 == 0) = true := beq_iff_eq.mpr c8
                have c8b1 : (x9_1 != 0) = false := bne_eq_false_iff_eq.mpr c8
                clear c8
                (first | rw [c8b0] | (simp only [i64_w, i32_w]; rw [c8b0]) | skip)
                have H' := Aside0.mk H
                clear H
                have hcz9_0 : wr.cell? ⟨gb223, 0, none⟩ = some (.slice (some ad224) l0_0.length c0_0) := (blk_cell BK223.out 0).trans rfl
                have hcz9_1 : wr.cell? ⟨gb223, 1, none⟩ = some (.bool a0_1) := (blk_cell BK223.out 1).trans rfl
                have hfz9_0 := blk_frozen BK223.out 0
                have hfz9_1 := blk_frozen BK223.out 1
                go_wp2
                go_meet
                case rel => exact ⟨_, (!a0_1), (by first | rfl | (simp; done) | (simp [*]; done)), H', ⟨by have := HK1.out; first | omega | exact Nat.le_refl _⟩, ⟨by (with_reducible repeat (first | refine blk_drewN ?_ _ | refine blk_drew ?_ | refine blk_alloc ?_ _)); exact BK223.out⟩, ⟨by repeat (first | (with_reducible first | exact HB.out | apply below_alloc | apply pw_below_drewN | apply below_drew1 | refine below_set ?_ GE223.out) | exact HB.out)⟩⟩
              · rw [if_neg c8] at H
                have c8b0 : (x9_1 == 0) = false := beq_eq_false_iff_ne.mpr c8
                have c8b1 : (x9_1 != 0) = true := bne_iff_ne.mpr c8
                (first | rw [c8b0] | (simp only [i64_w, i32_w]; rw [c8b0]) | skip)
                have H' := Aside0.mk H
                clear H
                go_wp2
                go_meet
                case rel => exact ⟨_, (false), (by first | rfl | (simp; done) | (simp [*]; done)), H', ⟨by have := HK1.out; first | omega | exact Nat.le_refl _⟩, ⟨by (with_reducible repeat (first | refine blk_drewN ?_ _ | refine blk_drew ?_ | refine blk_alloc ?_ _)); exact BK223.out⟩, ⟨by repeat (first | (with_reducible first | exact HB.out | apply below_alloc | apply pw_below_drewN | apply below_drew1 | refine below_set ?_ GE223.out) | exact HB.out)⟩⟩
            case rest =>
              clear HC7
              try clear c2
              try clear p2
              try clear q2
              try clear hx2
              try clear c4
              try clear c4b0
              try clear c5
              try clear c5b0
              try clear c6
              try clear c6b0
              try clear c8
              try clear c8b0
              try clear c8b1
              try clear hcz3_0
              try clear hcz3_1
              try clear hcz9_0
              try clear hcz9_1
              try clear hfz3_0
              try clear hfz3_1
              try clear hfz9_0
              try clear hfz9_1
              try clear hx224_0
              try clear p2
              try clear p224
              try clear q224
              obtain ⟨kq, x20_6, rfl, HA, HJ6, BK223, HB⟩ := hcut
              cases kq with
              | zero => exact absurd HA.out (by simp [spec_Text.j1])
              | succ kj6 =>
                have H := HA.out
                clear HA
                simp only [spec_Text.j1] at H
                by_cases c10 : x20_6 = true
                · subst c10
                  have H1 : (spec_Text.l0 kj6 x3_1 l0_0 (l0_0.length : Int) (wrap64 (x9_1 + 1)) l0_0 a0_1) = some r := by rw [if_pos rfl] at H; exact H
                  clear H
                  have H := H1
                  clear H1
                  have H' := Aside0.mk H
                  clear H
                  go_wp2
                  go_roundg kj6
                  case measure => have := HK1.out; have := HJ6.out; omega
                  case rel => exact ⟨(x3_1), (wrap64 (x9_1 + 1)), (by first | rfl | (simp; done) | (simp [*]; done)), (by first | rfl | (simp; done) | (simp [*]; done)), H', ⟨by have := HK1.out; have := HJ6.out; omega⟩, ⟨by (with_reducible repeat (first | refine blk_drewN ?_ _ | refine blk_drew ?_ | refine blk_alloc ?_ _)); exact BK223.out⟩, ⟨by repeat (first | (with_reducible first | exact HB.out | apply below_alloc | apply pw_below_drewN | apply below_drew1 | refine below_set ?_ GE223.out) | exact HB.out)⟩⟩
                · replace c10 := Bool.eq_false_iff.mpr c10
                  subst c10
                  have H1 : (if x3_1.toList = ([] : List UInt8) then ((spec_FieldText.f kj6 (rd_L5 l0_0 x9_1)).bind fun t225 => (if x3_1.size + t225.size ≤ 9223372036854775807 then (spec_Text.l0 kj6 (x3_1 ++ t225) l0_0 (l0_0.length : Int) (wrap64 (x9_1 + 1)) l0_0 a0_1) else (none))) else (if x3_1.size + 1 ≤ 9223372036854775807 then ((spec_FieldText.f kj6 (rd_L5 l0_0 x9_1)).bind fun t226 => (if (x3_1 ++ (⟨#[32]⟩ : ByteArray)).size + t226.size ≤ 9223372036854775807 then (spec_Text.l0 kj6 ((x3_1 ++ (⟨#[32]⟩ : ByteArray)) ++ t226) l0_0 (l0_0.length : Int) (wrap64 (x9_1 + 1)) l0_0 a0_1) else (none))) else (none))) = some r := by rw [if_neg (show ¬ (false = true) by decide)] at H; exact H
                  clear H
                  have H := H1
                  clear H1
                  by_cases c11 : x3_1.toList = ([] : List UInt8)
                  · rw [if_pos c11] at H
                    have c11b0 : (x3_1.toList == ([] : List UInt8)) = true := beq_iff_eq.mpr c11
                    have c11b1 : (x3_1.toList != ([] : List UInt8)) = false := bne_eq_false_iff_eq.mpr c11
                    clear c11
                    replace H := Option.bind_eq_some_iff.mp H
                    obtain ⟨t225, A120, H⟩ := H
                    replace H : (if x3_1.size + t225.size ≤ 9223372036854775807 then (spec_Text.l0 kj6 (x3_1 ++ t225) l0_0 (l0_0.length : Int) (wrap64 (x9_1 + 1)) l0_0 a0_1) else (none)) = some r := H
                    have A12 := Aside0.mk A120
                    clear A120
                    by_cases c13 : x3_1.size + t225.size ≤ 9223372036854775807
                    · rw [if_pos c13] at H
                      have c13b0 := eq_true c13
                      have c13b1 : decide (x3_1.size + t225.size ≤ 9223372036854775807) = true := decide_eq_true c13
                      try have c13b2 : (9223372036854775807 < x3_1.size + t225.size) = False := eq_false (Nat.not_lt.2 c13)
                      have H' := Aside0.mk H
                      clear H
                      go_wp2_with (first | ((with_reducible refine gate_callee (f := 9) rfl ?_); refine goesL_ (some 27) rfl rfl Tryd.func9 (by kernel_rfl) rfl #[.slice A224_0 (rd_L5 l0_0 x9_1).length c224_0] rfl (by (try simp only [List.map_toArray, List.map_cons, List.map_nil]); first | done | rfl | (simp only [List.length_drop, List.length_take]; rfl)) ?_; (with_reducible refine (spec_FieldText.calls kj6 _ _ (rd_L5 l0_0 x9_1) t225 _ ?side1 ?side2 A12.out).mono ?_); (case side1 => repeat (first | exact (Kd.C_below HR224_0.out HB.out) | (with_reducible refine Kd.C_alloc ?_ _) | (with_reducible refine Kd.C_drewN ?_ _) | (with_reducible refine Kd.C_drew ?_))); (case side2 => exact HC224_0.out); rintro e w14 ⟨rfl, hb⟩; refine ⟨_, rfl, ?_⟩; have n0_ := Aside0.mk (blk_below (g := gb223) (o := .cells #[.slice (some ad224) l0_0.length c0_0, .bool a0_1] 28 (0, 0)) (by (with_reducible repeat (first | refine blk_drewN ?_ _ | refine blk_drew ?_ | refine blk_alloc ?_ _)); exact BK223.out) hb); have n1_ := Aside0.mk (below_step (by repeat (first | (with_reducible first | exact HB.out | apply below_alloc | apply pw_below_drewN | apply below_drew1 | refine below_set ?_ GE223.out) | exact HB.out)) hb); clear BK223; clear HB; have BK223 := n0_; have HB := n1_; clear n0_ n1_; (try clear hb); (try clear hb2); (try clear hk); (try clear hi)))
                      go_roundg kj6
                      case measure => have := HK1.out; have := HJ6.out; omega
                      case rel => exact ⟨(x3_1 ++ t225), (wrap64 (x9_1 + 1)), (by first | rfl | (simp; done) | (simp [*]; done)), (by first | rfl | (simp; done) | (simp [*]; done)), H', ⟨by have := HK1.out; have := HJ6.out; omega⟩, ⟨by (with_reducible repeat (first | refine blk_drewN ?_ _ | refine blk_drew ?_ | refine blk_alloc ?_ _)); exact BK223.out⟩, ⟨by repeat (first | (with_reducible first | exact HB.out | apply below_alloc | apply pw_below_drewN | apply below_drew1 | refine below_set ?_ GE223.out) | exact HB.out)⟩⟩
                    · rw [if_neg c13] at H
                      exact absurd H (by simp)
                  · rw [if_neg c11] at H
                    have c11b0 : (x3_1.toList == ([] : List UInt8)) = false := beq_eq_false_iff_ne.mpr c11
                    have c11b1 : (x3_1.toList != ([] : List UInt8)) = true := bne_iff_ne.mpr c11
                    by_cases c15 : x3_1.size + 1 ≤ 9223372036854775807
                    · rw [if_pos c15] at H
                      have c15b0 := eq_true c15
                      have c15b1 : decide (x3_1.size + 1 ≤ 9223372036854775807) = true := decide_eq_true c15
                      try have c15b2 : (9223372036854775807 < x3_1.size + 1) = False := eq_false (Nat.not_lt.2 c15)
                      replace H := Option.bind_eq_some_iff.mp H
                      obtain ⟨t226, A160, H⟩ := H
                      replace H : (if (x3_1 ++ (⟨#[32]⟩ : ByteArray)).size + t226.size ≤ 9223372036854775807 then (spec_Text.l0 kj6 ((x3_1 ++ (⟨#[32]⟩ : ByteArray)) ++ t226) l0_0 (l0_0.length : Int) (wrap64 (x9_1 + 1)) l0_0 a0_1) else (none)) = some r := H
                      have A16 := Aside0.mk A160
                      clear A160
                      by_cases c17 : (x3_1 ++ (⟨#[32]⟩ : ByteArray)).size + t226.size ≤ 9223372036854775807
                      · rw [if_pos c17] at H
                        have c17b0 := eq_true c17
                        have c17b1 : decide ((x3_1 ++ (⟨#[32]⟩ : ByteArray)).size + t226.size ≤ 9223372036854775807) = true := decide_eq_true c17
                        try have c17b2 : (9223372036854775807 < (x3_1 ++ (⟨#[32]⟩ : ByteArray)).size + t226.size) = False := eq_false (Nat.not_lt.2 c17)
                        (try have c17b3 : (9223372036854775807 < (x3_1.size + 1) + t226.size) = False := eq_false (Nat.not_lt.2 (by have h_ := c17; (try simp only [ByteArray.size_append] at h_); exact h_)))
                        have H' := Aside0.mk H
                        clear H
                        go_wp2_with (first | ((with_reducible refine gate_callee (f := 9) rfl ?_); refine goesL_ (some 27) rfl rfl Tryd.func9 (by kernel_rfl) rfl #[.slice A224_0 (rd_L5 l0_0 x9_1).length c224_0] rfl (by (try simp only [List.map_toArray, List.map_cons, List.map_nil]); first | done | rfl | (simp only [List.length_drop, List.length_take]; rfl)) ?_; (with_reducible refine (spec_FieldText.calls kj6 _ _ (rd_L5 l0_0 x9_1) t226 _ ?side1 ?side2 A16.out).mono ?_); (case side1 => repeat (first | exact (Kd.C_below HR224_0.out HB.out) | (with_reducible refine Kd.C_alloc ?_ _) | (with_reducible refine Kd.C_drewN ?_ _) | (with_reducible refine Kd.C_drew ?_))); (case side2 => exact HC224_0.out); rintro e w18 ⟨rfl, hb⟩; refine ⟨_, rfl, ?_⟩; have n0_ := Aside0.mk (blk_below (g := gb223) (o := .cells #[.slice (some ad224) l0_0.length c0_0, .bool a0_1] 28 (0, 0)) (by (with_reducible repeat (first | refine blk_drewN ?_ _ | refine blk_drew ?_ | refine blk_alloc ?_ _)); exact BK223.out) hb); have n1_ := Aside0.mk (below_step (by repeat (first | (with_reducible first | exact HB.out | apply below_alloc | apply pw_below_drewN | apply below_drew1 | refine below_set ?_ GE223.out) | exact HB.out)) hb); clear BK223; clear HB; have BK223 := n0_; have HB := n1_; clear n0_ n1_; (try clear hb); (try clear hb2); (try clear hk); (try clear hi)))
                        go_roundg kj6
                        case measure => have := HK1.out; have := HJ6.out; omega
                        case rel => exact ⟨((x3_1 ++ (⟨#[32]⟩ : ByteArray)) ++ t226), (wrap64 (x9_1 + 1)), (by first | rfl | (simp; done) | (simp [*]; done)), (by first | rfl | (simp; done) | (simp [*]; done)), H', ⟨by have := HK1.out; have := HJ6.out; omega⟩, ⟨by (with_reducible repeat (first | refine blk_drewN ?_ _ | refine blk_drew ?_ | refine blk_alloc ?_ _)); exact BK223.out⟩, ⟨by repeat (first | (with_reducible first | exact HB.out | apply below_alloc | apply pw_below_drewN | apply below_drew1 | refine below_set ?_ GE223.out) | exact HB.out)⟩⟩
                      · rw [if_neg c17] at H
                        exact absurd H (by simp)
                    · rw [if_neg c15] at H
                      exact absurd H (by simp)
          · rw [if_neg c6] at H
            exact absurd H (by simp)
        · rw [if_neg c5] at H
          exact absurd H (by simp)
      · rw [if_neg c4] at H
        have c4b0 : decide (x9_1 < (l0_0.length : Int)) = false := decide_eq_false c4
        clear c4
        obtain rfl := Option.some.inj H
        go_wp2
        go_ret
        exact ⟨by first | rfl | (simp [errW_none, errW_some] <;> rfl) | (simp [*, errW_none, errW_some] <;> rfl), by repeat (first | (with_reducible first | exact HB.out | apply below_alloc | apply pw_below_drewN | apply below_drew1 | refine below_set ?_ GE223.out) | exact HB.out)⟩

end Go.Proofs.YthndpmjmnglhfaaDoor.Core
namespace Go.Proofs.YthndpmjmnglhfaaDoor.Core
open Go.RowKit Go.Proofs.YthndpmjmnglhfaaDoorW.PrintWords Go.Proofs.YthndpmjmnglhfaaDoorW.PrintLast Go.Proofs.YthndpmjmnglhfaaDoorW.PrintMore
attribute [local go_sem] max2_int min2_int max_two min_two max_three min_three max_four min_four   -- for this text's walks alone
set_option linter.unusedVariables false
set_option linter.unusedSimpArgs false

/-! ### laws_zzFits2: function 10 -/
def laws_zzFits2.l0 : Nat → List (List (S40)) → Int → Int → Option (Bool)
  | 0, _, _, _ => none
  | k + 1, x8, x9, x10 => if x10 < x9 then (if 0 ≤ x10 then (if x10 < (x8.length : Int) then (if ((rd_L3 x8 x10).length : Int) > 2147483647 then (some false) else (laws_zzFits2.l0 k x8 x9 (wrap64 (x10 + 1)))) else (none)) else (none)) else (some true)
def laws_zzFits2.f (k : Nat) (l0 : List (List (S40))) : Option (Bool) := if (l0.length : Int) > 2147483647 then (some false) else (laws_zzFits2.l0 k l0 (l0.length : Int) 0)
theorem laws_zzFits2.mono_l : ∀ k, (∀ y0 y1 y2, LeO (laws_zzFits2.l0 k y0 y1 y2) (laws_zzFits2.l0 (k + 1) y0 y1 y2))
  | 0 => fun _ _ _ r h => by simp [laws_zzFits2.l0] at h
  | k + 1 => by
    have ih0 := laws_zzFits2.mono_l k
    · intro y0 y1 y2
      unfold laws_zzFits2.l0
      repeat' first
      | (with_reducible exact ih0 _ _ _)
      | (with_reducible exact LeO.refl _)
      | (with_reducible exact LeO.none _)
      | (with_reducible refine LeO.ite ?_ ?_)
      | (with_reducible refine LeO.bind ?_ (fun _ => ?_))
      | exact ih0 _ _ _
      | exact LeO.none _
      | refine LeO.ite ?_ ?_
      | refine LeO.bind ?_ (fun _ => ?_)
theorem laws_zzFits2.mono : ∀ a0 k, LeO (laws_zzFits2.f k a0) (laws_zzFits2.f (k + 1) a0) := by
  intro a0 k
  have ih0 := laws_zzFits2.mono_l k
  unfold laws_zzFits2.f
  repeat' first
      | (with_reducible exact ih0 _ _ _)
      | (with_reducible exact LeO.refl _)
      | (with_reducible exact LeO.none _)
      | (with_reducible refine LeO.ite ?_ ?_)
      | (with_reducible refine LeO.bind ?_ (fun _ => ?_))
      | exact ih0 _ _ _
      | exact LeO.none _
      | refine LeO.ite ?_ ?_
      | refine LeO.bind ?_ (fun _ => ?_)
set_option maxHeartbeats 8000000 in
set_option maxRecDepth 100000 in
theorem laws_zzFits2.calls (k : Nat) (A0 : Option Addr) (c0 : Nat) (l0 : List (List (S40))) (r : Bool) (w : World) (hr0 : Kd.C (Kd.slice 40 k40) w A0 l0.length l0) (hc0 : l0.length ≤ c0) (h : laws_zzFits2.f k l0 = some r) :
    Calls Tryd.prog 10 #[.slice A0 l0.length c0] w fun e w' => e = .returned (.bool r) ∧ Drawn0 w w' := by
  have HR0 := Aside0.mk hr0
  have HC0 := Aside0.mk hc0
  clear hr0 hc0
  have H : (if (l0.length : Int) > 2147483647 then (some false) else (laws_zzFits2.l0 k l0 (l0.length : Int) 0)) = some r := h
  clear h
  by_cases c2 : (l0.length : Int) > 2147483647
  · rw [if_pos c2] at H
    have c2b0 : decide (2147483647 < (l0.length : Int)) = true := decide_eq_true c2
    have c2b1 : decide (2147483647 < l0.length) = true := decide_eq_true (by omega)
    clear c2
    obtain rfl := Option.some.inj H
    go_enter Tryd.func10, Tryd.ntmps10
    go_wp2
    go_ret
    exact ⟨by first | rfl | (simp; done) | (simp [*]; done), by repeat (first | exact Drawn0.refl _ | apply Drawn0.step)⟩
  · rw [if_neg c2] at H
    have c2b0 : decide (2147483647 < (l0.length : Int)) = false := decide_eq_false c2
    have c2b1 : decide (2147483647 < l0.length) = false := decide_eq_false (by omega)
    clear c2
    have H' := Aside0.mk H
    clear H
    go_enter Tryd.func10, Tryd.ntmps10
    go_wp2
    go_loopg [10] k (fun kq v10 w' => ∃ (x10_1 : Int), v10 = .int .i64 x10_1 ∧ Aside0 (laws_zzFits2.l0 kq l0 (l0.length : Int) x10_1 = some r) ∧ Aside0 (kq ≤ k) ∧ Drawn0 w w')
    case atStart => exact ⟨(0), (by first | rfl | (simp; done) | (simp [*]; done)), H', ⟨Nat.le_refl _⟩, by repeat (first | exact Drawn0.refl _ | apply Drawn0.step)⟩
    case round =>
      clear H'
      try clear c1
      try clear c2
      try clear c2b0
      try clear c2b1
      try clear p2
      obtain ⟨x10_1, rfl, HA, HK1, ⟨m1, rfl⟩⟩ := hrel
      cases gk with
      | zero => exact absurd HA.out (by simp [laws_zzFits2.l0])
      | succ k1 =>
        have H := HA.out
        clear HA
        simp only [laws_zzFits2.l0] at H
        by_cases c3 : x10_1 < (l0.length : Int)
        · rw [if_pos c3] at H
          have c3b0 : decide (x10_1 < (l0.length : Int)) = true := decide_eq_true c3
          clear c3
          by_cases c4 : 0 ≤ x10_1
          · rw [if_pos c4] at H
            have c4b0 : decide (0 ≤ x10_1) = true := decide_eq_true c4
            clear c4
            by_cases c5 : x10_1 < (l0.length : Int)
            · rw [if_pos c5] at H
              have c5b0 : decide (x10_1 < (l0.length : Int)) = true := decide_eq_true c5
              clear c5
              by_cases c6 : ((rd_L3 l0 x10_1).length : Int) > 2147483647
              · rw [if_pos c6] at H
                have c6b0 : decide (2147483647 < ((rd_L3 l0 x10_1).length : Int)) = true := decide_eq_true c6
                have c6b1 : decide (2147483647 < (rd_L3 l0 x10_1).length) = true := decide_eq_true (by omega)
                clear c6
                obtain rfl := Option.some.inj H
                have p101 : 0 ≤ (x10_1 : Int) := of_decide_eq_true (by first | (with_reducible assumption) | assumption)
                have q101 : x10_1 < (l0.length : Int) := of_decide_eq_true (by first | (with_reducible assumption) | assumption)
                obtain ⟨ad101, A101_0, c101_0, e101, hx101_0, hl101_0, hi101_0⟩ := at_L3 HR0.out x10_1 p101 q101
                cases e101
                have HR101_0 := Aside0.mk hi101_0
                have HC101_0 := Aside0.mk hl101_0
                clear hi101_0 hl101_0
                replace p101 := eq_true p101
                replace q101 := eq_true q101
                go_wp2
                go_ret
                exact ⟨by first | rfl | (simp; done) | (simp [*]; done), by repeat (first | exact Drawn0.refl _ | apply Drawn0.step)⟩
              · rw [if_neg c6] at H
                have c6b0 : decide (2147483647 < ((rd_L3 l0 x10_1).length : Int)) = false := decide_eq_false c6
                have c6b1 : decide (2147483647 < (rd_L3 l0 x10_1).length) = false := decide_eq_false (by omega)
                clear c6
                have H' := Aside0.mk H
                clear H
                have p101 : 0 ≤ (x10_1 : Int) := of_decide_eq_true (by first | (with_reducible assumption) | assumption)
                have q101 : x10_1 < (l0.length : Int) := of_decide_eq_true (by first | (with_reducible assumption) | assumption)
                obtain ⟨ad101, A101_0, c101_0, e101, hx101_0, hl101_0, hi101_0⟩ := at_L3 HR0.out x10_1 p101 q101
                cases e101
                have HR101_0 := Aside0.mk hi101_0
                have HC101_0 := Aside0.mk hl101_0
                clear hi101_0 hl101_0
                replace p101 := eq_true p101
                replace q101 := eq_true q101
                go_wp2
                go_roundg k1
                case measure => have := HK1.out; omega
                case rel => exact ⟨(wrap64 (x10_1 + 1)), (by first | rfl | (simp; done) | (simp [*]; done)), H', ⟨by have := HK1.out; omega⟩, by repeat (first | exact Drawn0.refl _ | apply Drawn0.step)⟩
            · rw [if_neg c5] at H
              exact absurd H (by simp)
          · rw [if_neg c4] at H
            exact absurd H (by simp)
        · rw [if_neg c3] at H
          have c3b0 : decide (x10_1 < (l0.length : Int)) = false := decide_eq_false c3
          clear c3
          obtain rfl := Option.some.inj H
          go_wp2
          go_ret
          exact ⟨by first | rfl | (simp; done) | (simp [*]; done), by repeat (first | exact Drawn0.refl _ | apply Drawn0.step)⟩

end Go.Proofs.YthndpmjmnglhfaaDoor.Core
namespace Go.Proofs.YthndpmjmnglhfaaDoor.Core
open Go.RowKit Go.Proofs.YthndpmjmnglhfaaDoorW.PrintWords Go.Proofs.YthndpmjmnglhfaaDoorW.PrintLast Go.Proofs.YthndpmjmnglhfaaDoorW.PrintMore
attribute [local go_sem] max2_int min2_int max_two min_two max_three min_three max_four min_four   -- for this text's walks alone
set_option linter.unusedVariables false
set_option linter.unusedSimpArgs false

/-! ### laws_zzFits1: function 4 -/
def laws_zzFits1.f (k : Nat) (l0_0 : List (List (S40))) (a0_1 : Bool) : Option (Bool) := (laws_zzFits2.f k l0_0).bind fun t103 => (if t103 = true then (some true) else (some false))
theorem laws_zzFits1.mono : ∀ a0 a1 k, LeO (laws_zzFits1.f k a0 a1) (laws_zzFits1.f (k + 1) a0 a1) := by
  intro a0 a1 k
  unfold laws_zzFits1.f
  repeat' first
      | (with_reducible exact laws_zzFits2.mono _ _)
      | (with_reducible exact LeO.refl _)
      | (with_reducible exact LeO.none _)
      | (with_reducible refine LeO.ite ?_ ?_)
      | (with_reducible refine LeO.bind ?_ (fun _ => ?_))
      | exact laws_zzFits2.mono _ _
      | exact LeO.none _
      | refine LeO.ite ?_ ?_
      | refine LeO.bind ?_ (fun _ => ?_)
set_option maxHeartbeats 8000000 in
set_option maxRecDepth 100000 in
theorem laws_zzFits1.calls (k : Nat) (A0_0 : Option Addr) (c0_0 : Nat) (l0_0 : List (List (S40))) (a0_1 : Bool) (r : Bool) (w : World) (hr0_0 : Kd.C (Kd.slice 40 k40) w A0_0 l0_0.length l0_0) (hc0_0 : l0_0.length ≤ c0_0) (h : laws_zzFits1.f k l0_0 a0_1 = some r) :
    Calls Tryd.prog 4 #[.agg #[.slice A0_0 l0_0.length c0_0, .bool a0_1]] w fun e w' => e = .returned (.bool r) ∧ Below w.heap.size w w' := by
  have hu24 := Tryd.underlying24
  have HR0_0 := Aside0.mk hr0_0
  have HC0_0 := Aside0.mk hc0_0
  clear hr0_0 hc0_0
  have HB := Aside0.mk (Below.refl w.heap.size w)
  have H : ((laws_zzFits2.f k l0_0).bind fun t103 => (if t103 = true then (some true) else (some false))) = some r := h
  clear h
  replace H := Option.bind_eq_some_iff.mp H
  obtain ⟨t103, A20, H⟩ := H
  replace H : (if t103 = true then (some true) else (some false)) = some r := H
  have A2 := Aside0.mk A20
  clear A20
  by_cases c3 : t103 = true
  · subst c3
    have H1 : (some true) = some r := by rw [if_pos rfl] at H; exact H
    clear H
    have H := H1
    clear H1
    obtain rfl := Option.some.inj H
    go_enter Tryd.func4, Tryd.ntmps4
    go_wp2_with (first | ((with_reducible refine gate_dst (N := 1) rfl ?_); refine box_event ?hg (N := 1) ?hd (cs := #[.slice A0_0 l0_0.length c0_0, .bool a0_1]) (t := 24) ?hr ?_; (case hd => rfl); (case hg => rfl); (case hr => first | (go_simp; done) | (go_simp; rfl)); intro gb102 hg w4 hbox hb; have n0_ := Aside0.mk (below_step (by repeat (first | (with_reducible first | exact HB.out | apply below_alloc | apply pw_below_drewN | apply below_drew1) | exact HB.out)) hb); have n1_ := Aside0.mk (hbox); have n2_ := Aside0.mk ((by rw [hg]; exact (below_size (by repeat (first | (with_reducible first | exact HB.out | apply below_alloc | apply pw_below_drewN | apply below_drew1) | exact HB.out))) : w.heap.size ≤ gb102)); have n3_ := Aside0.mk ((by rw [hg]; exact (below_size (by repeat (first | (with_reducible first | exact HB.out | apply below_alloc | apply pw_below_drewN | apply below_drew1) | exact HB.out))) : w.heap.size ≤ gb102)); clear HB; have HB := n0_; have BK102 := n1_; have GW102 := n2_; have GE102 := n3_; clear n0_ n1_ n2_ n3_; clear hb hbox hg; have hcz5_0 : w4.cell? ⟨gb102, 0, none⟩ = some (.slice A0_0 l0_0.length c0_0) := (blk_cell BK102.out 0).trans rfl; have hcz5_1 : w4.cell? ⟨gb102, 1, none⟩ = some (.bool a0_1) := (blk_cell BK102.out 1).trans rfl; have hfz5_0 := blk_frozen BK102.out 0; have hfz5_1 := blk_frozen BK102.out 1) | ((with_reducible refine gate_callee (f := 10) rfl ?_); refine goesL_ (some 5) rfl rfl Tryd.func10 (by kernel_rfl) rfl #[.slice A0_0 l0_0.length c0_0] rfl (by (try simp only [List.map_toArray, List.map_cons, List.map_nil]); first | done | rfl | (simp only [List.length_drop, List.length_take]; rfl)) ?_; (with_reducible refine (laws_zzFits2.calls k _ _ l0_0 true _ ?side1 ?side2 A2.out).mono ?_); (case side1 => repeat (first | exact (Kd.C_below HR0_0.out HB.out) | (with_reducible refine Kd.C_alloc ?_ _) | (with_reducible refine Kd.C_drewN ?_ _) | (with_reducible refine Kd.C_drew ?_))); (case side2 => exact HC0_0.out); rintro e w' ⟨rfl, ⟨nd, rfl⟩⟩; refine ⟨_, rfl, ?_⟩))
    go_ret
    exact ⟨by first | rfl | (simp [errW_none, errW_some] <;> rfl) | (simp [*, errW_none, errW_some] <;> rfl), by repeat (first | (with_reducible first | exact HB.out | apply below_alloc | apply pw_below_drewN | apply below_drew1 | refine below_set ?_ GE102.out) | exact HB.out)⟩
  · replace c3 := Bool.eq_false_iff.mpr c3
    subst c3
    have H1 : (some false) = some r := by rw [if_neg (show ¬ (false = true) by decide)] at H; exact H
    clear H
    have H := H1
    clear H1
    obtain rfl := Option.some.inj H
    go_enter Tryd.func4, Tryd.ntmps4
    go_wp2_with (first | ((with_reducible refine gate_dst (N := 1) rfl ?_); refine box_event ?hg (N := 1) ?hd (cs := #[.slice A0_0 l0_0.length c0_0, .bool a0_1]) (t := 24) ?hr ?_; (case hd => rfl); (case hg => rfl); (case hr => first | (go_simp; done) | (go_simp; rfl)); intro gb102 hg w6 hbox hb; have n0_ := Aside0.mk (below_step (by repeat (first | (with_reducible first | exact HB.out | apply below_alloc | apply pw_below_drewN | apply below_drew1) | exact HB.out)) hb); have n1_ := Aside0.mk (hbox); have n2_ := Aside0.mk ((by rw [hg]; exact (below_size (by repeat (first | (with_reducible first | exact HB.out | apply below_alloc | apply pw_below_drewN | apply below_drew1) | exact HB.out))) : w.heap.size ≤ gb102)); have n3_ := Aside0.mk ((by rw [hg]; exact (below_size (by repeat (first | (with_reducible first | exact HB.out | apply below_alloc | apply pw_below_drewN | apply below_drew1) | exact HB.out))) : w.heap.size ≤ gb102)); clear HB; have HB := n0_; have BK102 := n1_; have GW102 := n2_; have GE102 := n3_; clear n0_ n1_ n2_ n3_; clear hb hbox hg; have hcz7_0 : w6.cell? ⟨gb102, 0, none⟩ = some (.slice A0_0 l0_0.length c0_0) := (blk_cell BK102.out 0).trans rfl; have hcz7_1 : w6.cell? ⟨gb102, 1, none⟩ = some (.bool a0_1) := (blk_cell BK102.out 1).trans rfl; have hfz7_0 := blk_frozen BK102.out 0; have hfz7_1 := blk_frozen BK102.out 1) | ((with_reducible refine gate_callee (f := 10) rfl ?_); refine goesL_ (some 5) rfl rfl Tryd.func10 (by kernel_rfl) rfl #[.slice A0_0 l0_0.length c0_0] rfl (by (try simp only [List.map_toArray, List.map_cons, List.map_nil]); first | done | rfl | (simp only [List.length_drop, List.length_take]; rfl)) ?_; (with_reducible refine (laws_zzFits2.calls k _ _ l0_0 false _ ?side1 ?side2 A2.out).mono ?_); (case side1 => repeat (first | exact (Kd.C_below HR0_0.out HB.out) | (with_reducible refine Kd.C_alloc ?_ _) | (with_reducible refine Kd.C_drewN ?_ _) | (with_reducible refine Kd.C_drew ?_))); (case side2 => exact HC0_0.out); rintro e w' ⟨rfl, ⟨nd, rfl⟩⟩; refine ⟨_, rfl, ?_⟩))
    go_ret
    exact ⟨by first | rfl | (simp [errW_none, errW_some] <;> rfl) | (simp [*, errW_none, errW_some] <;> rfl), by repeat (first | (with_reducible first | exact HB.out | apply below_alloc | apply pw_below_drewN | apply below_drew1 | refine below_set ?_ GE102.out) | exact HB.out)⟩

end Go.Proofs.YthndpmjmnglhfaaDoor.Core
namespace Go.Proofs.YthndpmjmnglhfaaDoor.Core
open Go.RowKit Go.Proofs.YthndpmjmnglhfaaDoorW.PrintWords Go.Proofs.YthndpmjmnglhfaaDoorW.PrintLast Go.Proofs.YthndpmjmnglhfaaDoorW.PrintMore
attribute [local go_sem] max2_int min2_int max_two min_two max_three min_three max_four min_four   -- for this text's walks alone
set_option linter.unusedVariables false
set_option linter.unusedSimpArgs false

/-! ### laws_expr: function 5 -/
mutual
def laws_expr.l0 : Nat → List (List (S40)) → Int → Int → List (List (S41)) → Bool → Option ((List (List (S41))) × Bool)
  | 0, _, _, _, _, _ => none
  | k + 1, x13, x14, x15, x107000, x107001 => if x15 < x14 then (if 0 ≤ x15 then (if x15 < (x13.length : Int) then (laws_expr.l1 k (([] : List (S41))) x13 x14 x15 (rd_L3 x13 x15) ((rd_L3 x13 x15).length : Int) 0 x107000 x107001) else (none)) else (none)) else (some (x107000, x107001))
def laws_expr.l1 : Nat → List (S41) → List (List (S40)) → Int → Int → List (S40) → Int → Int → List (List (S41)) → Bool → Option ((List (List (S41))) × Bool)
  | 0, _, _, _, _, _, _, _, _, _ => none
  | k + 1, x6, x13, x14, x15, x20, x21, x22, x107000, x107001 => if x22 < x21 then (if 0 ≤ x22 then (if x22 < (x20.length : Int) then (if x6.length < 4398046511104 then (laws_expr.l1 k (x6 ++ [(⟨(rd_T40 x20 x22).f0, (rd_T40 x20 x22).f1, (rd_T40 x20 x22).f2, (rd_T40 x20 x22).f3⟩ : S41)]) x13 x14 x15 x20 x21 (wrap64 (x22 + 1)) x107000 x107001) else (none)) else (none)) else (none)) else (if x107000.length < 5864062014805 then (laws_expr.l0 k x13 x14 (wrap64 (x15 + 1)) (x107000 ++ [x6]) x107001) else (none))
end
def laws_expr.f (k : Nat) (l0_0 : List (List (S40))) (a0_1 : Bool) : Option ((List (List (S41))) × Bool) := laws_expr.l0 k l0_0 (l0_0.length : Int) 0 ([] : List (List (S41))) a0_1
theorem laws_expr.mono_l : ∀ k, (∀ y0 y1 y2 y3 y4, LeO (laws_expr.l0 k y0 y1 y2 y3 y4) (laws_expr.l0 (k + 1) y0 y1 y2 y3 y4)) ∧ (∀ y0 y1 y2 y3 y4 y5 y6 y7 y8, LeO (laws_expr.l1 k y0 y1 y2 y3 y4 y5 y6 y7 y8) (laws_expr.l1 (k + 1) y0 y1 y2 y3 y4 y5 y6 y7 y8))
  | 0 => ⟨fun _ _ _ _ _ r h => by simp [laws_expr.l0] at h, fun _ _ _ _ _ _ _ _ _ r h => by simp [laws_expr.l1] at h⟩
  | k + 1 => by
    obtain ⟨ih0, ih1⟩ := laws_expr.mono_l k
    refine ⟨?_, ?_⟩
    · intro y0 y1 y2 y3 y4
      unfold laws_expr.l0
      repeat' first
      | (with_reducible exact ih0 _ _ _ _ _)
      | (with_reducible exact ih1 _ _ _ _ _ _ _ _ _)
      | (with_reducible exact LeO.refl _)
      | (with_reducible exact LeO.none _)
      | (with_reducible refine LeO.ite ?_ ?_)
      | (with_reducible refine LeO.bind ?_ (fun _ => ?_))
      | exact ih0 _ _ _ _ _
      | exact ih1 _ _ _ _ _ _ _ _ _
      | exact LeO.none _
      | refine LeO.ite ?_ ?_
      | refine LeO.bind ?_ (fun _ => ?_)
    · intro y0 y1 y2 y3 y4 y5 y6 y7 y8
      unfold laws_expr.l1
      repeat' first
      | (with_reducible exact ih0 _ _ _ _ _)
      | (with_reducible exact ih1 _ _ _ _ _ _ _ _ _)
      | (with_reducible exact LeO.refl _)
      | (with_reducible exact LeO.none _)
      | (with_reducible refine LeO.ite ?_ ?_)
      | (with_reducible refine LeO.bind ?_ (fun _ => ?_))
      | exact ih0 _ _ _ _ _
      | exact ih1 _ _ _ _ _ _ _ _ _
      | exact LeO.none _
      | refine LeO.ite ?_ ?_
      | refine LeO.bind ?_ (fun _ => ?_)
theorem laws_expr.mono : ∀ a0 a1 k, LeO (laws_expr.f k a0 a1) (laws_expr.f (k + 1) a0 a1) := by
  intro a0 a1 k
  obtain ⟨ih0, ih1⟩ := laws_expr.mono_l k
  unfold laws_expr.f
  repeat' first
      | (with_reducible exact ih0 _ _ _ _ _)
      | (with_reducible exact ih1 _ _ _ _ _ _ _ _ _)
      | (with_reducible exact LeO.refl _)
      | (with_reducible exact LeO.none _)
      | (with_reducible refine LeO.ite ?_ ?_)
      | (with_reducible refine LeO.bind ?_ (fun _ => ?_))
      | exact ih0 _ _ _ _ _
      | exact ih1 _ _ _ _ _ _ _ _ _
      | exact LeO.none _
      | refine LeO.ite ?_ ?_
      | refine LeO.bind ?_ (fun _ => ?_)
set_option maxHeartbeats 8000000 in
set_option maxRecDepth 100000 in
theorem laws_expr.calls (k : Nat) (A0_0 : Option Addr) (c0_0 : Nat) (l0_0 : List (List (S40))) (a0_1 : Bool) (r1 : List (List (S41))) (r2 : Bool) (w : World) (hr0_0 : Kd.C (Kd.slice 40 k40) w A0_0 l0_0.length l0_0) (hc0_0 : l0_0.length ≤ c0_0) (h : laws_expr.f k l0_0 a0_1 = some (r1, r2)) :
    Calls Tryd.prog 5 #[.agg #[.slice A0_0 l0_0.length c0_0, .bool a0_1]] w fun e w' => ∃ v0_ : Value, e = .returned (.agg #[v0_, .bool r2]) ∧ Kd.S (Kd.slice 41 k41) 35 w' w.heap.size (fun _ => True) v0_ r1 ∧ Below w.heap.size w w' := by
  have hu24 := Tryd.underlying24
  have hu28 := Tryd.underlying28
  have hu40 := Tryd.underlying40
  have hu41 := Tryd.underlying41
  have HR0_0 := Aside0.mk hr0_0
  have HC0_0 := Aside0.mk hc0_0
  clear hr0_0 hc0_0
  have HB := Aside0.mk (Below.refl w.heap.size w)
  have H : (laws_expr.l0 k l0_0 (l0_0.length : Int) 0 ([] : List (List (S41))) a0_1) = some (r1, r2) := h
  clear h
  have H' := Aside0.mk H
  clear H
  go_enter Tryd.func5, Tryd.ntmps5
  go_wp2_with (first | ((with_reducible refine gate_dst (N := 1) rfl ?_); refine box_event ?hg (N := 1) ?hd (cs := #[.slice A0_0 l0_0.length c0_0, .bool a0_1]) (t := 24) ?hr ?_; (case hd => rfl); (case hg => rfl); (case hr => first | (go_simp; done) | (go_simp; rfl)); intro gb104 hg w2 hbox hb; have n0_ := Aside0.mk (below_step (by repeat (first | (with_reducible first | exact HB.out | apply below_alloc | apply pw_below_drewN | apply below_drew1) | exact HB.out)) hb); have n1_ := Aside0.mk (hbox); have n2_ := Aside0.mk ((by rw [hg]; exact (below_size (by repeat (first | (with_reducible first | exact HB.out | apply below_alloc | apply pw_below_drewN | apply below_drew1) | exact HB.out))) : w.heap.size ≤ gb104)); have n3_ := Aside0.mk ((by rw [hg]; exact (below_size (by repeat (first | (with_reducible first | exact HB.out | apply below_alloc | apply pw_below_drewN | apply below_drew1) | exact HB.out))) : w.heap.size ≤ gb104)); clear HB; have HB := n0_; have BK104 := n1_; have GW104 := n2_; have GE104 := n3_; clear n0_ n1_ n2_ n3_; clear hb hbox hg) | ((with_reducible refine gate_dst (N := 2) rfl ?_); refine box_event ?hg (N := 2) ?hd (cs := #[.slice none 0 0, .bool false]) (t := 28) ?hr ?_; (case hd => rfl); (case hg => rfl); (case hr => first | (go_simp; done) | (go_simp; rfl)); intro gb105 hg w3 hbox hb; have n0_ := Aside0.mk (blk_below (g := gb104) (o := .cells #[.slice A0_0 l0_0.length c0_0, .bool a0_1] 24 (0, 0)) (by (with_reducible repeat (first | refine blk_drewN ?_ _ | refine blk_drew ?_ | refine blk_alloc ?_ _)); exact BK104.out) hb); have n1_ := Aside0.mk (below_step (by repeat (first | (with_reducible first | exact HB.out | apply below_alloc | apply pw_below_drewN | apply below_drew1 | refine below_set ?_ GE104.out) | exact HB.out)) hb); have n2_ := Aside0.mk (hbox); have n3_ := Aside0.mk ((by rw [hg]; exact (below_size (by repeat (first | (with_reducible first | exact HB.out | apply below_alloc | apply pw_below_drewN | apply below_drew1 | refine below_set ?_ GE104.out) | exact HB.out))) : w.heap.size ≤ gb105)); have n4_ := Aside0.mk ((by rw [hg]; exact (below_size (by repeat (first | (with_reducible first | exact HB.out | apply below_alloc | apply pw_below_drewN | apply below_drew1 | refine below_set ?_ GE104.out) | exact HB.out))) : w.heap.size ≤ gb105)); have n5_ := Aside0.mk ((by rw [hg]; exact Nat.ne_of_lt (blk_lt (g := gb104) (o := .cells #[.slice A0_0 l0_0.length c0_0, .bool a0_1] 24 (0, 0)) (by (with_reducible repeat (first | refine blk_drewN ?_ _ | refine blk_drew ?_ | refine blk_alloc ?_ _)); exact BK104.out)) : gb104 ≠ gb105)); have n6_ := Aside0.mk ((by rw [hg]; exact Nat.ne_of_gt (blk_lt (g := gb104) (o := .cells #[.slice A0_0 l0_0.length c0_0, .bool a0_1] 24 (0, 0)) (by (with_reducible repeat (first | refine blk_drewN ?_ _ | refine blk_drew ?_ | refine blk_alloc ?_ _)); exact BK104.out)) : gb105 ≠ gb104)); clear BK104; clear HB; have BK104 := n0_; have HB := n1_; have BK105 := n2_; have GW105 := n3_; have GE105 := n4_; have NB104_105 := n5_; have NB105_104 := n6_; clear n0_ n1_ n2_ n3_ n4_ n5_ n6_; clear hb hbox hg; have hnb4 := NB104_105.out; have hnc4 := NB105_104.out; have hcz5_0 : w3.cell? ⟨gb104, 0, none⟩ = some (.slice A0_0 l0_0.length c0_0) := (blk_cell BK104.out 0).trans rfl; have hcz5_1 : w3.cell? ⟨gb104, 1, none⟩ = some (.bool a0_1) := (blk_cell BK104.out 1).trans rfl; have hfz5_0 := blk_frozen BK104.out 0; have hfz5_1 := blk_frozen BK104.out 1) | ((with_reducible refine gate_dst (N := 3) rfl ?_); refine box_event ?hg (N := 3) ?hd (cs := #[.slice none 0 0, .bool false]) (t := 28) ?hr ?_; (case hd => rfl); (case hg => rfl); (case hr => first | (go_simp; done) | (go_simp; rfl)); intro gb106 hg w6 hbox hb; have n0_ := Aside0.mk (blk_below (g := gb104) (o := .cells #[.slice A0_0 l0_0.length c0_0, .bool a0_1] 24 (0, 0)) (by (with_reducible repeat (first | refine blk_drewN ?_ _ | refine blk_drew ?_ | refine blk_alloc ?_ _)); exact BK104.out) hb); have n1_ := Aside0.mk (blk_below (g := gb105) (o := .cells #[.slice none 0 0, .bool false] 28 (0, 0)) (by (with_reducible repeat (first | refine blk_drewN ?_ _ | refine blk_drew ?_ | refine blk_alloc ?_ _)); exact BK105.out) hb); have n2_ := Aside0.mk (below_step (by repeat (first | (with_reducible first | exact HB.out | apply below_alloc | apply pw_below_drewN | apply below_drew1 | refine below_set ?_ GE104.out | refine below_set ?_ GE105.out) | exact HB.out)) hb); have n3_ := Aside0.mk (hbox); have n4_ := Aside0.mk ((by rw [hg]; exact (below_size (by repeat (first | (with_reducible first | exact HB.out | apply below_alloc | apply pw_below_drewN | apply below_drew1 | refine below_set ?_ GE104.out | refine below_set ?_ GE105.out) | exact HB.out))) : w.heap.size ≤ gb106)); have n5_ := Aside0.mk ((by rw [hg]; exact (below_size (by repeat (first | (with_reducible first | exact HB.out | apply below_alloc | apply pw_below_drewN | apply below_drew1 | refine below_set ?_ GE104.out | refine below_set ?_ GE105.out) | exact HB.out))) : w.heap.size ≤ gb106)); have n6_ := Aside0.mk ((by rw [hg]; exact Nat.ne_of_lt (blk_lt (g := gb104) (o := .cells #[.slice A0_0 l0_0.length c0_0, .bool a0_1] 24 (0, 0)) (by (with_reducible repeat (first | refine blk_drewN ?_ _ | refine blk_drew ?_ | refine blk_alloc ?_ _)); exact BK104.out)) : gb104 ≠ gb106)); have n7_ := Aside0.mk ((by rw [hg]; exact Nat.ne_of_gt (blk_lt (g := gb104) (o := .cells #[.slice A0_0 l0_0.length c0_0, .bool a0_1] 24 (0, 0)) (by (with_reducible repeat (first | refine blk_drewN ?_ _ | refine blk_drew ?_ | refine blk_alloc ?_ _)); exact BK104.out)) : gb106 ≠ gb104)); have n8_ := Aside0.mk ((by rw [hg]; exact Nat.ne_of_lt (blk_lt (g := gb105) (o := .cells #[.slice none 0 0, .bool false] 28 (0, 0)) (by (with_reducible repeat (first | refine blk_drewN ?_ _ | refine blk_drew ?_ | refine blk_alloc ?_ _)); exact BK105.out)) : gb105 ≠ gb106)); have n9_ := Aside0.mk ((by rw [hg]; exact Nat.ne_of_gt (blk_lt (g := gb105) (o := .cells #[.slice none 0 0, .bool false] 28 (0, 0)) (by (with_reducible repeat (first | refine blk_drewN ?_ _ | refine blk_drew ?_ | refine blk_alloc ?_ _)); exact BK105.out)) : gb106 ≠ gb105)); clear BK104; clear BK105; clear HB; have BK104 := n0_; have BK105 := n1_; have HB := n2_; have BK106 := n3_; have GW106 := n4_; have GE106 := n5_; have NB104_106 := n6_; have NB106_104 := n7_; have NB105_106 := n8_; have NB106_105 := n9_; clear n0_ n1_ n2_ n3_ n4_ n5_ n6_ n7_ n8_ n9_; clear hb hbox hg; have hnb7 := NB106_104.out; have hnc7 := NB104_106.out; have hnb8 := NB106_105.out; have hnc8 := NB105_106.out; have hcz9_0 : w6.cell? ⟨gb106, 0, none⟩ = some (.slice none 0 0) := (blk_cell BK106.out 0).trans rfl; have hcz9_1 : w6.cell? ⟨gb106, 1, none⟩ = some (.bool false) := (blk_cell BK106.out 1).trans rfl; have hfz9_0 := blk_frozen BK106.out 0; have hfz9_1 := blk_frozen BK106.out 1; have hcz10_0 : w6.cell? ⟨gb104, 0, none⟩ = some (.slice A0_0 l0_0.length c0_0) := (blk_cell BK104.out 0).trans rfl; have hcz10_1 : w6.cell? ⟨gb104, 1, none⟩ = some (.bool a0_1) := (blk_cell BK104.out 1).trans rfl; have hfz10_0 := blk_frozen BK104.out 0; have hfz10_1 := blk_frozen BK104.out 1))
  go_loopg [15] k (fun kq v15 w' => ∃ (x15_1 : Int) (x107000_1 : List (List (S41))) (u107000 : Value), v15 = .int .i64 x15_1 ∧ Aside0 (laws_expr.l0 kq l0_0 (l0_0.length : Int) x15_1 x107000_1 a0_1 = some (r1, r2)) ∧ Aside0 (kq ≤ k) ∧ Aside0 (Kd.S (Kd.slice 41 k41) 35 w' w.heap.size (fun _ => True) u107000 x107000_1) ∧ Aside0 (w'.heap[gb104]? = some (.cells #[(.slice A0_0 l0_0.length c0_0), .bool a0_1] 24 (0, 0))) ∧ Aside0 (w'.heap[gb105]? = some (.cells #[(.slice none 0 0), .bool false] 28 (0, 0))) ∧ Aside0 (w'.heap[gb106]? = some (.cells #[u107000, .bool a0_1] 28 (0, 0))) ∧ Aside0 (Below w.heap.size w w'))
  case atStart => exact ⟨(0), (([] : List (List (S41)))), (.slice none 0 0), (by first | rfl | (simp; done) | (simp [*]; done)), H', ⟨Nat.le_refl _⟩, ⟨by first | exact Kd.S_nil _ _ _ _ _ | exact Kd.N_nil _ _ _ _ _ | exact Kd.V_nil _ _ _ _ _ | exact Kd.Q_nil _ _ _ _ _ | exact Kd.R_nil _ _ _ _ _⟩, ⟨by (with_reducible repeat (first | refine blk_drewN ?_ _ | refine blk_drew ?_ | refine blk_alloc ?_ _)); refine blk_far ?_ NB104_106.out _; (with_reducible repeat (first | refine blk_drewN ?_ _ | refine blk_drew ?_ | refine blk_alloc ?_ _)); refine blk_far ?_ NB104_106.out _; (with_reducible repeat (first | refine blk_drewN ?_ _ | refine blk_drew ?_ | refine blk_alloc ?_ _)); exact BK104.out⟩, ⟨by (with_reducible repeat (first | refine blk_drewN ?_ _ | refine blk_drew ?_ | refine blk_alloc ?_ _)); refine blk_far ?_ NB105_106.out _; (with_reducible repeat (first | refine blk_drewN ?_ _ | refine blk_drew ?_ | refine blk_alloc ?_ _)); refine blk_far ?_ NB105_106.out _; (with_reducible repeat (first | refine blk_drewN ?_ _ | refine blk_drew ?_ | refine blk_alloc ?_ _)); exact BK105.out⟩, ⟨by (with_reducible repeat (first | refine blk_drewN ?_ _ | refine blk_drew ?_ | refine blk_alloc ?_ _)); refine blk_put (cs := #[.slice none 0 0, .bool false]) ?_ 1 _ rfl; (with_reducible repeat (first | refine blk_drewN ?_ _ | refine blk_drew ?_ | refine blk_alloc ?_ _)); refine blk_put (cs := #[.slice none 0 0, .bool false]) ?_ 0 _ rfl; (with_reducible repeat (first | refine blk_drewN ?_ _ | refine blk_drew ?_ | refine blk_alloc ?_ _)); exact BK106.out⟩, ⟨by repeat (first | (with_reducible first | exact HB.out | apply below_alloc | apply pw_below_drewN | apply below_drew1 | refine below_set ?_ GE104.out | refine below_set ?_ GE105.out | refine below_set ?_ GE106.out) | exact HB.out)⟩⟩
  case round =>
    clear H'
    try clear p2
    try clear c4
    try clear c5
    try clear c7
    try clear c8
    try clear hcz10_0
    try clear hcz10_1
    try clear hcz5_0
    try clear hcz5_1
    try clear hcz9_0
    try clear hcz9_1
    try clear hfz10_0
    try clear hfz10_1
    try clear hfz5_0
    try clear hfz5_1
    try clear hfz9_0
    try clear hfz9_1
    obtain ⟨x15_1, x107000_1, u107000, rfl, HA, HK1, HO_107000, BK104, BK105, BK106, HB⟩ := hrel
    cases gk with
    | zero => exact absurd HA.out (by simp [laws_expr.l0])
    | succ k1 =>
      have H := HA.out
      clear HA
      simp only [laws_expr.l0] at H
      by_cases c11 : x15_1 < (l0_0.length : Int)
      · rw [if_pos c11] at H
        have c11b0 : decide (x15_1 < (l0_0.length : Int)) = true := decide_eq_true c11
        clear c11
        by_cases c12 : 0 ≤ x15_1
        · rw [if_pos c12] at H
          have c12b0 : decide (0 ≤ x15_1) = true := decide_eq_true c12
          clear c12
          by_cases c13 : x15_1 < (l0_0.length : Int)
          · rw [if_pos c13] at H
            have c13b0 : decide (x15_1 < (l0_0.length : Int)) = true := decide_eq_true c13
            clear c13
            obtain ⟨y108, hy108⟩ : ∃ y_ : List (S41), y_ = (([] : List (S41))) := ⟨_, rfl⟩
            replace H : (laws_expr.l1 k1 y108 l0_0 (l0_0.length : Int) x15_1 (rd_L3 l0_0 x15_1) ((rd_L3 l0_0 x15_1).length : Int) 0 x107000_1 a0_1) = some (r1, r2) := by first | (rw [hy108]; with_reducible exact H) | (have H2_ := (Option.bind_some _ _).symm.trans H; rw [hy108]; with_reducible exact H2_) | (have H2_ := (Option.bind_some _ _).symm.trans H; with_reducible exact H2_) | with_reducible exact H | (rw [hy108]; exact H) | exact H
            have Ny108 := Aside0.mk hy108
            clear hy108
            have H' := Aside0.mk H
            clear H
            have p107 : 0 ≤ (x15_1 : Int) := of_decide_eq_true (by first | (with_reducible assumption) | assumption)
            have q107 : x15_1 < (l0_0.length : Int) := of_decide_eq_true (by first | (with_reducible assumption) | assumption)
            obtain ⟨ad107, A107_0, c107_0, e107, hx107_0, hl107_0, hi107_0⟩ := at_L3 HR0_0.out x15_1 p107 q107
            cases e107
            replace hx107_0 := (HB.out.cell (World.block_lt_of_cell? w _ hx107_0)).trans hx107_0
            have HR107_0 := Aside0.mk hi107_0
            have HC107_0 := Aside0.mk hl107_0
            clear hi107_0 hl107_0
            replace p107 := eq_true p107
            replace q107 := eq_true q107
            go_wp2_with (first | ((with_reducible refine gate_dst (N := 19) rfl ?_); refine Kd.R_lit k41 _ 41 ?hg (N := 19) ?hd (xs := ([] : List (S41))) (inner := []) (ok := fun _ => True) (okp := fun _ => True) ?hr ?hp (fun _ hk => hk) trivial (Below.refl _ _) (Nat.le_refl _) (by simp) ?_; (case hd => rfl); (case hg => rfl); (case hr => first | (go_simp; done) | (go_simp; rfl)); (case hp => exact (Reps.none _ _)); intro v109 w14 ho15 hb hg_ hnew_; clear hg_ hnew_; (first | rw [← Ny108.out] at ho15 | (simp only [Int.reduceToNat] at ho15; rw [← Ny108.out] at ho15)); have n0_ := Aside0.mk (Kd.S_elder' (by (with_reducible repeat (first | apply Kd.S_alloc | apply Kd.S_drewN | apply Kd.S_drew)); exact HO_107000.out) (Kd.R_base ho15) hb); have n1_ := Aside0.mk (Kd.R_lower ho15 (below_size (by repeat (first | (with_reducible first | exact HB.out | apply below_alloc | apply pw_below_drewN | apply below_drew1 | refine below_set ?_ GE104.out | refine below_set ?_ GE105.out | refine below_set ?_ GE106.out) | exact HB.out)))); have n2_ := Aside0.mk (blk_below (g := gb104) (o := .cells #[.slice (some ad107) l0_0.length c0_0, .bool a0_1] 24 (0, 0)) (by (with_reducible repeat (first | refine blk_drewN ?_ _ | refine blk_drew ?_ | refine blk_alloc ?_ _)); exact BK104.out) hb); have n3_ := Aside0.mk (blk_below (g := gb105) (o := .cells #[.slice none 0 0, .bool false] 28 (0, 0)) (by (with_reducible repeat (first | refine blk_drewN ?_ _ | refine blk_drew ?_ | refine blk_alloc ?_ _)); exact BK105.out) hb); have n4_ := Aside0.mk (blk_below (g := gb106) (o := .cells #[u107000, .bool a0_1] 28 (0, 0)) (by (with_reducible repeat (first | refine blk_drewN ?_ _ | refine blk_drew ?_ | refine blk_alloc ?_ _)); exact BK106.out) hb); have n5_ := Aside0.mk (below_step (by repeat (first | (with_reducible first | exact HB.out | apply below_alloc | apply pw_below_drewN | apply below_drew1 | refine below_set ?_ GE104.out | refine below_set ?_ GE105.out | refine below_set ?_ GE106.out) | exact HB.out)) hb); clear HO_107000; clear BK104; clear BK105; clear BK106; clear HB; have HO_107000 := n0_; have HO110 := n1_; have BK104 := n2_; have BK105 := n3_; have BK106 := n4_; have HB := n5_; clear n0_ n1_ n2_ n3_ n4_ n5_; clear hb ho15))
            go_loopg [6, 22] k1 (fun kq v6 v22 w' => ∃ (x6_2 : List (S41)) (x22_2 : Int), v22 = .int .i64 x22_2 ∧ Aside0 (laws_expr.l1 kq x6_2 l0_0 (l0_0.length : Int) x15_1 (rd_L3 l0_0 x15_1) ((rd_L3 l0_0 x15_1).length : Int) x22_2 x107000_1 a0_1 = some (r1, r2)) ∧ Aside0 (kq ≤ k1) ∧ Aside0 (Kd.R k41 41 w' w.heap.size (fun _ => True) v6 x6_2) ∧ Aside0 (Kd.S (Kd.slice 41 k41) 35 w' w.heap.size (fun k_ => some k_ ≠ (v6 : Value).ownBlock) u107000 x107000_1) ∧ Aside0 (w'.heap[gb104]? = some (.cells #[(.slice (some ad107) l0_0.length c0_0), .bool a0_1] 24 (0, 0))) ∧ Aside0 (w'.heap[gb105]? = some (.cells #[(.slice none 0 0), .bool false] 28 (0, 0))) ∧ Aside0 (w'.heap[gb106]? = some (.cells #[u107000, .bool a0_1] 28 (0, 0))) ∧ Aside0 (Below w.heap.size w w'))
            case atStart => exact ⟨(y108), (0), (by first | rfl | (simp; done) | (simp [*]; done)), H', ⟨Nat.le_refl _⟩, ⟨by (with_reducible repeat (first | apply Kd.R_alloc | apply Kd.R_drewN | apply Kd.R_drew)); exact HO110.out⟩, ⟨by (with_reducible repeat (first | apply Kd.S_alloc | apply Kd.S_drewN | apply Kd.S_drew)); exact Kd.S_mono HO_107000.out (fun _ hk => hk.2)⟩, ⟨by (with_reducible repeat (first | refine blk_drewN ?_ _ | refine blk_drew ?_ | refine blk_alloc ?_ _)); exact BK104.out⟩, ⟨by (with_reducible repeat (first | refine blk_drewN ?_ _ | refine blk_drew ?_ | refine blk_alloc ?_ _)); exact BK105.out⟩, ⟨by (with_reducible repeat (first | refine blk_drewN ?_ _ | refine blk_drew ?_ | refine blk_alloc ?_ _)); exact BK106.out⟩, ⟨by repeat (first | (with_reducible first | exact HB.out | apply below_alloc | apply pw_below_drewN | apply below_drew1 | refine below_set ?_ GE104.out | refine below_set ?_ GE105.out | refine below_set ?_ GE106.out) | exact HB.out)⟩⟩
            case round =>
              clear H'
              try clear c1
              try clear p1
              try clear q1
              try clear hx1
              try clear p2
              try clear c4
              try clear c5
              try clear c7
              try clear c8
              try clear c10
              try clear p10
              try clear q10
              try clear hx10
              try clear c11
              try clear c11b0
              try clear c12
              try clear c12b0
              try clear c13
              try clear c13b0
              try clear hcz10_0
              try clear hcz10_1
              try clear hcz5_0
              try clear hcz5_1
              try clear hcz9_0
              try clear hcz9_1
              try clear hfz10_0
              try clear hfz10_1
              try clear hfz5_0
              try clear hfz5_1
              try clear hfz9_0
              try clear hfz9_1
              try clear hx107_0
              try clear p107
              try clear p2
              try clear q107
              obtain ⟨x6_2, x22_2, rfl, HA, HK2, HO_6, HO_107000, BK104, BK105, BK106, HB⟩ := hrel
              cases gk with
              | zero => exact absurd HA.out (by simp [laws_expr.l1])
              | succ k2 =>
                have H := HA.out
                clear HA
                simp only [laws_expr.l1] at H
                by_cases c16 : x22_2 < ((rd_L3 l0_0 x15_1).length : Int)
                · rw [if_pos c16] at H
                  have c16b0 : decide (x22_2 < ((rd_L3 l0_0 x15_1).length : Int)) = true := decide_eq_true c16
                  clear c16
                  by_cases c17 : 0 ≤ x22_2
                  · rw [if_pos c17] at H
                    have c17b0 : decide (0 ≤ x22_2) = true := decide_eq_true c17
                    clear c17
                    by_cases c18 : x22_2 < ((rd_L3 l0_0 x15_1).length : Int)
                    · rw [if_pos c18] at H
                      have c18b0 : decide (x22_2 < ((rd_L3 l0_0 x15_1).length : Int)) = true := decide_eq_true c18
                      clear c18
                      by_cases c19 : x6_2.length < 4398046511104
                      · rw [if_pos c19] at H
                        have LMc19 := Aside0.mk c19
                        clear c19
                        obtain ⟨y113, hy113⟩ : ∃ y_ : List (S41), y_ = (x6_2 ++ [(⟨(rd_T40 (rd_L3 l0_0 x15_1) x22_2).f0, (rd_T40 (rd_L3 l0_0 x15_1) x22_2).f1, (rd_T40 (rd_L3 l0_0 x15_1) x22_2).f2, (rd_T40 (rd_L3 l0_0 x15_1) x22_2).f3⟩ : S41)]) := ⟨_, rfl⟩
                        replace H : (laws_expr.l1 k2 y113 l0_0 (l0_0.length : Int) x15_1 (rd_L3 l0_0 x15_1) ((rd_L3 l0_0 x15_1).length : Int) (wrap64 (x22_2 + 1)) x107000_1 a0_1) = some (r1, r2) := by first | (rw [hy113]; with_reducible exact H) | (have H2_ := (Option.bind_some _ _).symm.trans H; rw [hy113]; with_reducible exact H2_) | (have H2_ := (Option.bind_some _ _).symm.trans H; with_reducible exact H2_) | with_reducible exact H | (rw [hy113]; exact H) | exact H
                        have Ny113 := Aside0.mk hy113
                        clear hy113
                        have H' := Aside0.mk H
                        clear H
                        have p111 : 0 ≤ (x22_2 : Int) := of_decide_eq_true (by first | (with_reducible assumption) | assumption)
                        have q111 : x22_2 < ((rd_L3 l0_0 x15_1).length : Int) := of_decide_eq_true (by first | (with_reducible assumption) | assumption)
                        obtain ⟨ad111, e111, hx111_0, hx111_1, hx111_2, hx111_3⟩ := at_T40 HR107_0.out x22_2 p111 q111
                        cases e111
                        replace hx111_0 := (HB.out.cell (World.block_lt_of_cell? w _ hx111_0)).trans hx111_0
                        replace hx111_1 := (HB.out.cell (World.block_lt_of_cell? w _ hx111_1)).trans hx111_1
                        replace hx111_2 := (HB.out.cell (World.block_lt_of_cell? w _ hx111_2)).trans hx111_2
                        replace hx111_3 := (HB.out.cell (World.block_lt_of_cell? w _ hx111_3)).trans hx111_3
                        replace p111 := eq_true p111
                        replace q111 := eq_true q111
                        go_wp2_with (first | ((with_reducible refine gate_dst (N := 8) rfl ?_); refine box_event ?hg (N := 8) ?hd (cs := #[.bool false, .int .i64 0, .int .i64 0, .int .i64 0]) (t := 40) ?hr ?_; (case hd => rfl); (case hg => rfl); (case hr => first | (go_simp; done) | (go_simp; rfl)); intro gb112 hg w20 hbox hb; have n0_ := Aside0.mk (Kd.R_below (by (with_reducible repeat (first | apply Kd.R_alloc | apply Kd.R_drewN | apply Kd.R_drew)); exact HO_6.out) hb); have n1_ := Aside0.mk (Kd.S_below (by (with_reducible repeat (first | apply Kd.S_alloc | apply Kd.S_drewN | apply Kd.S_drew)); exact HO_107000.out) hb); have n2_ := Aside0.mk (blk_below (g := gb104) (o := .cells #[.slice (some ad107) l0_0.length c0_0, .bool a0_1] 24 (0, 0)) (by (with_reducible repeat (first | refine blk_drewN ?_ _ | refine blk_drew ?_ | refine blk_alloc ?_ _)); exact BK104.out) hb); have n3_ := Aside0.mk (blk_below (g := gb105) (o := .cells #[.slice none 0 0, .bool false] 28 (0, 0)) (by (with_reducible repeat (first | refine blk_drewN ?_ _ | refine blk_drew ?_ | refine blk_alloc ?_ _)); exact BK105.out) hb); have n4_ := Aside0.mk (blk_below (g := gb106) (o := .cells #[u107000, .bool a0_1] 28 (0, 0)) (by (with_reducible repeat (first | refine blk_drewN ?_ _ | refine blk_drew ?_ | refine blk_alloc ?_ _)); exact BK106.out) hb); have n5_ := Aside0.mk (below_step (by repeat (first | (with_reducible first | exact HB.out | apply below_alloc | apply pw_below_drewN | apply below_drew1 | refine below_set ?_ GE104.out | refine below_set ?_ GE105.out | refine below_set ?_ GE106.out) | exact HB.out)) hb); have n6_ := Aside0.mk (hbox); have n7_ := Aside0.mk ((by rw [hg]; exact (below_size (by repeat (first | (with_reducible first | exact HB.out | apply below_alloc | apply pw_below_drewN | apply below_drew1 | refine below_set ?_ GE104.out | refine below_set ?_ GE105.out | refine below_set ?_ GE106.out) | exact HB.out))) : w.heap.size ≤ gb112)); have n8_ := Aside0.mk ((by rw [hg]; exact (below_size (by repeat (first | (with_reducible first | exact HB.out | apply below_alloc | apply pw_below_drewN | apply below_drew1 | refine below_set ?_ GE104.out | refine below_set ?_ GE105.out | refine below_set ?_ GE106.out) | exact HB.out))) : w.heap.size ≤ gb112)); have n9_ := Aside0.mk ((by rw [hg]; exact Nat.ne_of_lt (blk_lt (g := gb104) (o := .cells #[.slice (some ad107) l0_0.length c0_0, .bool a0_1] 24 (0, 0)) (by (with_reducible repeat (first | refine blk_drewN ?_ _ | refine blk_drew ?_ | refine blk_alloc ?_ _)); exact BK104.out)) : gb104 ≠ gb112)); have n10_ := Aside0.mk ((by rw [hg]; exact Nat.ne_of_gt (blk_lt (g := gb104) (o := .cells #[.slice (some ad107) l0_0.length c0_0, .bool a0_1] 24 (0, 0)) (by (with_reducible repeat (first | refine blk_drewN ?_ _ | refine blk_drew ?_ | refine blk_alloc ?_ _)); exact BK104.out)) : gb112 ≠ gb104)); have n11_ := Aside0.mk ((by rw [hg]; exact Nat.ne_of_lt (blk_lt (g := gb105) (o := .cells #[.slice none 0 0, .bool false] 28 (0, 0)) (by (with_reducible repeat (first | refine blk_drewN ?_ _ | refine blk_drew ?_ | refine blk_alloc ?_ _)); exact BK105.out)) : gb105 ≠ gb112)); have n12_ := Aside0.mk ((by rw [hg]; exact Nat.ne_of_gt (blk_lt (g := gb105) (o := .cells #[.slice none 0 0, .bool false] 28 (0, 0)) (by (with_reducible repeat (first | refine blk_drewN ?_ _ | refine blk_drew ?_ | refine blk_alloc ?_ _)); exact BK105.out)) : gb112 ≠ gb105)); have n13_ := Aside0.mk ((by rw [hg]; exact Nat.ne_of_lt (blk_lt (g := gb106) (o := .cells #[u107000, .bool a0_1] 28 (0, 0)) (by (with_reducible repeat (first | refine blk_drewN ?_ _ | refine blk_drew ?_ | refine blk_alloc ?_ _)); exact BK106.out)) : gb106 ≠ gb112)); have n14_ := Aside0.mk ((by rw [hg]; exact Nat.ne_of_gt (blk_lt (g := gb106) (o := .cells #[u107000, .bool a0_1] 28 (0, 0)) (by (with_reducible repeat (first | refine blk_drewN ?_ _ | refine blk_drew ?_ | refine blk_alloc ?_ _)); exact BK106.out)) : gb112 ≠ gb106)); clear HO_6; clear HO_107000; clear BK104; clear BK105; clear BK106; clear HB; have HO_6 := n0_; have HO_107000 := n1_; have BK104 := n2_; have BK105 := n3_; have BK106 := n4_; have HB := n5_; have BK112 := n6_; have GW112 := n7_; have GE112 := n8_; have NB104_112 := n9_; have NB112_104 := n10_; have NB105_112 := n11_; have NB112_105 := n12_; have NB106_112 := n13_; have NB112_106 := n14_; clear n0_ n1_ n2_ n3_ n4_ n5_ n6_ n7_ n8_ n9_ n10_ n11_ n12_ n13_ n14_; clear hb hbox hg; have hnb21 := NB112_104.out; have hnc21 := NB104_112.out; have hnb22 := NB112_105.out; have hnc22 := NB105_112.out; have hnb23 := NB112_106.out; have hnc23 := NB106_112.out; have hcz24_0 : w20.cell? ⟨gb112, 0, none⟩ = some (.bool false) := (blk_cell BK112.out 0).trans rfl; have hcz24_1 : w20.cell? ⟨gb112, 1, none⟩ = some (.int .i64 0) := (blk_cell BK112.out 1).trans rfl; have hcz24_2 : w20.cell? ⟨gb112, 2, none⟩ = some (.int .i64 0) := (blk_cell BK112.out 2).trans rfl; have hcz24_3 : w20.cell? ⟨gb112, 3, none⟩ = some (.int .i64 0) := (blk_cell BK112.out 3).trans rfl; have hfz24_0 := blk_frozen BK112.out 0; have hfz24_1 := blk_frozen BK112.out 1; have hfz24_2 := blk_frozen BK112.out 2; have hfz24_3 := blk_frozen BK112.out 3) | ((with_reducible refine gate_builtin (b := .append) (xs := #[.tmp 26, .tmp 36]) rfl ?_); at_builtin; refine Kd.R_append k41 (w0 := w) w.heap.size rfl (.tmp 26) (.tmp 36) 35 41 (.agg #[(.bool false), (.int .i64 0), (.int .i64 0), (.int .i64 0)]) 32 rfl Tryd.underlying35 info41 rfl (by decide) (by omega) u6 x6_2 (⟨(rd_T40 (rd_L3 l0_0 x15_1) x22_2).f0, (rd_T40 (rd_L3 l0_0 x15_1) x22_2).f1, (rd_T40 (rd_L3 l0_0 x15_1) x22_2).f2, (rd_T40 (rd_L3 l0_0 x15_1) x22_2).f3⟩ : S41) [.bool ((rd_T40 (rd_L3 l0_0 x15_1) x22_2).f0), .int .i64 ((rd_T40 (rd_L3 l0_0 x15_1) x22_2).f1), .int .i64 ((rd_T40 (rd_L3 l0_0 x15_1) x22_2).f2), .int .i64 ((rd_T40 (rd_L3 l0_0 x15_1) x22_2).f3)] (fun _ => True) (fun _ => False) rfl (by first | (go_simp; done) | (go_simp; rfl)) ?aP (fun _ hk => hk.elim) ?aF ?aO ?aB ?aS ?aL ?_; (case aP => exact k41_mkM _ _ _ (⟨(rd_T40 (rd_L3 l0_0 x15_1) x22_2).f0, (rd_T40 (rd_L3 l0_0 x15_1) x22_2).f1, (rd_T40 (rd_L3 l0_0 x15_1) x22_2).f2, (rd_T40 (rd_L3 l0_0 x15_1) x22_2).f3⟩ : S41)); (case aB => exact (by repeat (first | (with_reducible first | exact HB.out | apply below_alloc | apply pw_below_drewN | apply below_drew1 | refine below_set ?_ GE104.out | refine below_set ?_ GE105.out | refine below_set ?_ GE106.out | refine below_set ?_ GE112.out) | exact HB.out))); (case aF => exact (fun _ _ => trivial)); (case aO => exact (by (with_reducible repeat (first | apply Kd.R_alloc | apply Kd.R_drewN | apply Kd.R_drew)); exact Kd.R_mono (Kd.R_far (p := ⟨gb112, 3, none⟩) (Kd.R_far (p := ⟨gb112, 2, none⟩) (Kd.R_far (p := ⟨gb112, 1, none⟩) (Kd.R_far (p := ⟨gb112, 0, none⟩) (Kd.R_types HO_6.out BK112.out (by decide)) (fun _ hk => hk.2) (.bool ((rd_T40 (rd_L3 l0_0 x15_1) x22_2).f0))) (fun _ hk => hk.2) (.int .i64 ((rd_T40 (rd_L3 l0_0 x15_1) x22_2).f1))) (fun _ hk => hk.2) (.int .i64 ((rd_T40 (rd_L3 l0_0 x15_1) x22_2).f2))) (fun _ hk => hk.2) (.int .i64 ((rd_T40 (rd_L3 l0_0 x15_1) x22_2).f3))) (fun _ hk => trivial))); (case aS => exact (below_size (by repeat (first | (with_reducible first | exact HB.out | apply below_alloc | apply pw_below_drewN | apply below_drew1 | refine below_set ?_ GE104.out | refine below_set ?_ GE105.out | refine below_set ?_ GE106.out | refine below_set ?_ GE112.out) | exact HB.out)))); (case aL => have := LMc19.out; omega); intro v114 w25 ho hb hg hat; rw [← Ny113.out] at ho; have n0_ := Aside0.mk (Kd.S_after (ok := (fun _ => True)) (by (with_reducible repeat (first | apply Kd.S_alloc | apply Kd.S_drewN | apply Kd.S_drew)); exact Kd.S_mono (Kd.S_far (p := ⟨gb112, 3, none⟩) (Kd.S_far (p := ⟨gb112, 2, none⟩) (Kd.S_far (p := ⟨gb112, 1, none⟩) (Kd.S_far (p := ⟨gb112, 0, none⟩) (Kd.S_types HO_107000.out BK112.out (by decide)) (fun _ hk => hk.2) (.bool ((rd_T40 (rd_L3 l0_0 x15_1) x22_2).f0))) (fun _ hk => hk.2) (.int .i64 ((rd_T40 (rd_L3 l0_0 x15_1) x22_2).f1))) (fun _ hk => hk.2) (.int .i64 ((rd_T40 (rd_L3 l0_0 x15_1) x22_2).f2))) (fun _ hk => hk.2) (.int .i64 ((rd_T40 (rd_L3 l0_0 x15_1) x22_2).f3))) (fun _ hk => ⟨trivial, hk.1⟩)) hg hat); have n1_ := Aside0.mk (blk_grown (g := gb104) (o := .cells #[.slice (some ad107) l0_0.length c0_0, .bool a0_1] 24 (0, 0)) (by (with_reducible repeat (first | refine blk_drewN ?_ _ | refine blk_drew ?_ | refine blk_alloc ?_ _)); refine blk_far ?_ NB104_112.out _; (with_reducible repeat (first | refine blk_drewN ?_ _ | refine blk_drew ?_ | refine blk_alloc ?_ _)); refine blk_far ?_ NB104_112.out _; (with_reducible repeat (first | refine blk_drewN ?_ _ | refine blk_drew ?_ | refine blk_alloc ?_ _)); refine blk_far ?_ NB104_112.out _; (with_reducible repeat (first | refine blk_drewN ?_ _ | refine blk_drew ?_ | refine blk_alloc ?_ _)); refine blk_far ?_ NB104_112.out _; (with_reducible repeat (first | refine blk_drewN ?_ _ | refine blk_drew ?_ | refine blk_alloc ?_ _)); exact BK104.out) hg (Kd.R_ne HO_6.out BK104.out (by decide))); have n2_ := Aside0.mk (blk_grown (g := gb105) (o := .cells #[.slice none 0 0, .bool false] 28 (0, 0)) (by (with_reducible repeat (first | refine blk_drewN ?_ _ | refine blk_drew ?_ | refine blk_alloc ?_ _)); refine blk_far ?_ NB105_112.out _; (with_reducible repeat (first | refine blk_drewN ?_ _ | refine blk_drew ?_ | refine blk_alloc ?_ _)); refine blk_far ?_ NB105_112.out _; (with_reducible repeat (first | refine blk_drewN ?_ _ | refine blk_drew ?_ | refine blk_alloc ?_ _)); refine blk_far ?_ NB105_112.out _; (with_reducible repeat (first | refine blk_drewN ?_ _ | refine blk_drew ?_ | refine blk_alloc ?_ _)); refine blk_far ?_ NB105_112.out _; (with_reducible repeat (first | refine blk_drewN ?_ _ | refine blk_drew ?_ | refine blk_alloc ?_ _)); exact BK105.out) hg (Kd.R_ne HO_6.out BK105.out (by decide))); have n3_ := Aside0.mk (blk_grown (g := gb106) (o := .cells #[u107000, .bool a0_1] 28 (0, 0)) (by (with_reducible repeat (first | refine blk_drewN ?_ _ | refine blk_drew ?_ | refine blk_alloc ?_ _)); refine blk_far ?_ NB106_112.out _; (with_reducible repeat (first | refine blk_drewN ?_ _ | refine blk_drew ?_ | refine blk_alloc ?_ _)); refine blk_far ?_ NB106_112.out _; (with_reducible repeat (first | refine blk_drewN ?_ _ | refine blk_drew ?_ | refine blk_alloc ?_ _)); refine blk_far ?_ NB106_112.out _; (with_reducible repeat (first | refine blk_drewN ?_ _ | refine blk_drew ?_ | refine blk_alloc ?_ _)); refine blk_far ?_ NB106_112.out _; (with_reducible repeat (first | refine blk_drewN ?_ _ | refine blk_drew ?_ | refine blk_alloc ?_ _)); exact BK106.out) hg (Kd.R_ne HO_6.out BK106.out (by decide))); have n4_ := Aside0.mk (blk_grown (g := gb112) (o := .cells #[.bool ((rd_T40 (rd_L3 l0_0 x15_1) x22_2).f0), .int .i64 ((rd_T40 (rd_L3 l0_0 x15_1) x22_2).f1), .int .i64 ((rd_T40 (rd_L3 l0_0 x15_1) x22_2).f2), .int .i64 ((rd_T40 (rd_L3 l0_0 x15_1) x22_2).f3)] 40 (0, 0)) (by (with_reducible repeat (first | refine blk_drewN ?_ _ | refine blk_drew ?_ | refine blk_alloc ?_ _)); refine blk_put (cs := #[.bool ((rd_T40 (rd_L3 l0_0 x15_1) x22_2).f0), .int .i64 ((rd_T40 (rd_L3 l0_0 x15_1) x22_2).f1), .int .i64 ((rd_T40 (rd_L3 l0_0 x15_1) x22_2).f2), .int .i64 0]) ?_ 3 _ rfl; (with_reducible repeat (first | refine blk_drewN ?_ _ | refine blk_drew ?_ | refine blk_alloc ?_ _)); refine blk_put (cs := #[.bool ((rd_T40 (rd_L3 l0_0 x15_1) x22_2).f0), .int .i64 ((rd_T40 (rd_L3 l0_0 x15_1) x22_2).f1), .int .i64 0, .int .i64 0]) ?_ 2 _ rfl; (with_reducible repeat (first | refine blk_drewN ?_ _ | refine blk_drew ?_ | refine blk_alloc ?_ _)); refine blk_put (cs := #[.bool ((rd_T40 (rd_L3 l0_0 x15_1) x22_2).f0), .int .i64 0, .int .i64 0, .int .i64 0]) ?_ 1 _ rfl; (with_reducible repeat (first | refine blk_drewN ?_ _ | refine blk_drew ?_ | refine blk_alloc ?_ _)); refine blk_put (cs := #[.bool false, .int .i64 0, .int .i64 0, .int .i64 0]) ?_ 0 _ rfl; (with_reducible repeat (first | refine blk_drewN ?_ _ | refine blk_drew ?_ | refine blk_alloc ?_ _)); exact BK112.out) hg (Kd.R_ne HO_6.out BK112.out (by decide))); have n5_ := Aside0.mk (hb); have n6_ := Aside0.mk (ho); clear HO_107000; clear BK104; clear BK105; clear BK106; clear BK112; clear HB; clear HO_6; have HO_107000 := n0_; have BK104 := n1_; have BK105 := n2_; have BK106 := n3_; have BK112 := n4_; have HB := n5_; have HO115 := n6_; clear n0_ n1_ n2_ n3_ n4_ n5_ n6_; clear ho hb hg hat))
                        go_roundg k2
                        case measure => have := HK1.out; have := HK2.out; omega
                        case rel => exact ⟨(y113), (wrap64 (x22_2 + 1)), (by first | rfl | (simp; done) | (simp [*]; done)), H', ⟨by have := HK1.out; have := HK2.out; omega⟩, ⟨by (with_reducible repeat (first | apply Kd.R_alloc | apply Kd.R_drewN | apply Kd.R_drew)); exact HO115.out⟩, ⟨by (with_reducible repeat (first | apply Kd.S_alloc | apply Kd.S_drewN | apply Kd.S_drew)); exact Kd.S_mono HO_107000.out (fun _ hk => hk.2)⟩, ⟨by (with_reducible repeat (first | refine blk_drewN ?_ _ | refine blk_drew ?_ | refine blk_alloc ?_ _)); exact BK104.out⟩, ⟨by (with_reducible repeat (first | refine blk_drewN ?_ _ | refine blk_drew ?_ | refine blk_alloc ?_ _)); exact BK105.out⟩, ⟨by (with_reducible repeat (first | refine blk_drewN ?_ _ | refine blk_drew ?_ | refine blk_alloc ?_ _)); exact BK106.out⟩, ⟨by repeat (first | (with_reducible first | exact HB.out | apply below_alloc | apply pw_below_drewN | apply below_drew1 | refine below_set ?_ GE104.out | refine below_set ?_ GE105.out | refine below_set ?_ GE106.out | refine below_set ?_ GE112.out) | exact HB.out)⟩⟩
                      · rw [if_neg c19] at H
                        exact absurd H (by simp)
                    · rw [if_neg c18] at H
                      exact absurd H (by simp)
                  · rw [if_neg c17] at H
                    exact absurd H (by simp)
                · rw [if_neg c16] at H
                  have c16b0 : decide (x22_2 < ((rd_L3 l0_0 x15_1).length : Int)) = false := decide_eq_false c16
                  clear c16
                  by_cases c26 : x107000_1.length < 5864062014805
                  · rw [if_pos c26] at H
                    have LMc26 := Aside0.mk c26
                    clear c26
                    obtain ⟨y116, hy116⟩ : ∃ y_ : List (List (S41)), y_ = (x107000_1 ++ [x6_2]) := ⟨_, rfl⟩
                    replace H : (laws_expr.l0 k2 l0_0 (l0_0.length : Int) (wrap64 (x15_1 + 1)) y116 a0_1) = some (r1, r2) := by first | (rw [hy116]; with_reducible exact H) | (have H2_ := (Option.bind_some _ _).symm.trans H; rw [hy116]; with_reducible exact H2_) | (have H2_ := (Option.bind_some _ _).symm.trans H; with_reducible exact H2_) | with_reducible exact H | (rw [hy116]; exact H) | exact H
                    have Ny116 := Aside0.mk hy116
                    clear hy116
                    have H' := Aside0.mk H
                    clear H
                    have hnb27 := NB106_104.out
                    have hnc27 := NB104_106.out
                    have hnb28 := NB106_105.out
                    have hnc28 := NB105_106.out
                    have hcz29_0 : wr.cell? ⟨gb106, 0, none⟩ = some (u107000) := (blk_cell BK106.out 0).trans rfl
                    have hcz29_1 : wr.cell? ⟨gb106, 1, none⟩ = some (.bool a0_1) := (blk_cell BK106.out 1).trans rfl
                    have hfz29_0 := blk_frozen BK106.out 0
                    have hfz29_1 := blk_frozen BK106.out 1
                    obtain ⟨Ao31, co31, eo31⟩ := Kd.R_slice HO_6.out
                    subst eo31
                    go_wp2_with (first | ((with_reducible refine gate_builtin (b := .append) (xs := #[.tmp 40, .tmp 42]) rfl ?_); at_builtin; refine Kd.S_append (Kd.slice 41 k41) (w0 := w) w.heap.size rfl (.tmp 40) (.tmp 42) 26 35 (.slice none 0 0) 24 rfl Tryd.underlying26 info35 rfl (by decide) (by omega) u107000 x107000_1 x6_2 [.slice Ao31 x6_2.length co31] (fun _ => True) (fun k_ => some k_ = (.slice Ao31 x6_2.length co31 : Value).ownBlock) rfl rfl ?aP (fun k_ hk_ => ((Kd.R_mono (ok' := fun k_ => ((fun _ => True)) k_ ∧ some k_ ≠ (u107000 : Value).ownBlock) (Kd.R_apart' (HO_6.out) (Kd.S_typed HO_107000.out) (by decide)) (fun k_ hk => ⟨trivial, hk.2⟩))).1 k_ hk_.symm) ?aF ?aO ?aB ?aS ?aL ?_; (case aP => exact Kd.M_row (Kd.R_mono (Kd.R_tight rfl (Kd.R_mono (ok' := fun k_ => ((fun _ => True)) k_ ∧ some k_ ≠ (u107000 : Value).ownBlock) (Kd.R_apart' (HO_6.out) (Kd.S_typed HO_107000.out) (by decide)) (fun k_ hk => ⟨trivial, hk.2⟩))) (fun _ h_ => h_))); (case aB => exact (by repeat (first | (with_reducible first | exact HB.out | apply below_alloc | apply pw_below_drewN | apply below_drew1 | refine below_set ?_ GE104.out | refine below_set ?_ GE105.out | refine below_set ?_ GE106.out) | exact HB.out))); (case aF => exact (fun _ _ => trivial)); (case aO => exact (by (with_reducible repeat (first | apply Kd.S_alloc | apply Kd.S_drewN | apply Kd.S_drew)); exact Kd.S_mono HO_107000.out (fun k_ hk => ⟨trivial, fun e_ => hk e_⟩))); (case aS => exact (below_size (by repeat (first | (with_reducible first | exact HB.out | apply below_alloc | apply pw_below_drewN | apply below_drew1 | refine below_set ?_ GE104.out | refine below_set ?_ GE105.out | refine below_set ?_ GE106.out) | exact HB.out)))); (case aL => have := LMc26.out; omega); intro v117 w30 ho hb hg hat; rw [← Ny116.out] at ho; have n0_ := Aside0.mk (blk_grown (g := gb104) (o := .cells #[.slice (some ad107) l0_0.length c0_0, .bool a0_1] 24 (0, 0)) (by (with_reducible repeat (first | refine blk_drewN ?_ _ | refine blk_drew ?_ | refine blk_alloc ?_ _)); exact BK104.out) hg (Kd.S_ne HO_107000.out BK104.out (by decide))); have n1_ := Aside0.mk (blk_grown (g := gb105) (o := .cells #[.slice none 0 0, .bool false] 28 (0, 0)) (by (with_reducible repeat (first | refine blk_drewN ?_ _ | refine blk_drew ?_ | refine blk_alloc ?_ _)); exact BK105.out) hg (Kd.S_ne HO_107000.out BK105.out (by decide))); have n2_ := Aside0.mk (blk_grown (g := gb106) (o := .cells #[u107000, .bool a0_1] 28 (0, 0)) (by (with_reducible repeat (first | refine blk_drewN ?_ _ | refine blk_drew ?_ | refine blk_alloc ?_ _)); exact BK106.out) hg (Kd.S_ne HO_107000.out BK106.out (by decide))); have n3_ := Aside0.mk (hb); have n4_ := Aside0.mk (ho); clear BK104; clear BK105; clear BK106; clear HB; clear HO_107000; clear HO_6; have BK104 := n0_; have BK105 := n1_; have BK106 := n2_; have HB := n3_; have HO118 := n4_; clear n0_ n1_ n2_ n3_ n4_; clear ho hb hg hat; obtain ⟨Ao32, co32, eo32⟩ := Kd.S_slice HO118.out; subst eo32; have hcz33_0 : w30.cell? ⟨gb106, 0, none⟩ = some (u107000) := (blk_cell BK106.out 0).trans rfl; have hcz33_1 : w30.cell? ⟨gb106, 1, none⟩ = some (.bool a0_1) := (blk_cell BK106.out 1).trans rfl; have hfz33_0 := blk_frozen BK106.out 0; have hfz33_1 := blk_frozen BK106.out 1))
                    go_roundg k2
                    case measure => have := HK1.out; have := HK2.out; omega
                    case rel => exact ⟨(wrap64 (x15_1 + 1)), (y116), (.slice Ao32 y116.length co32), (by first | rfl | (simp; done) | (simp [*]; done)), H', ⟨by have := HK1.out; have := HK2.out; omega⟩, ⟨by (with_reducible repeat (first | apply Kd.S_alloc | apply Kd.S_drewN | apply Kd.S_drew)); exact Kd.S_mono (Kd.S_far (p := ⟨gb106, 0, none⟩) (Kd.S_types HO118.out BK106.out (by decide)) (fun _ hk => hk.2) (.slice Ao32 y116.length co32)) (fun _ hk => trivial)⟩, ⟨by (with_reducible repeat (first | refine blk_drewN ?_ _ | refine blk_drew ?_ | refine blk_alloc ?_ _)); refine blk_far ?_ NB104_106.out _; (with_reducible repeat (first | refine blk_drewN ?_ _ | refine blk_drew ?_ | refine blk_alloc ?_ _)); exact BK104.out⟩, ⟨by (with_reducible repeat (first | refine blk_drewN ?_ _ | refine blk_drew ?_ | refine blk_alloc ?_ _)); refine blk_far ?_ NB105_106.out _; (with_reducible repeat (first | refine blk_drewN ?_ _ | refine blk_drew ?_ | refine blk_alloc ?_ _)); exact BK105.out⟩, ⟨by (with_reducible repeat (first | refine blk_drewN ?_ _ | refine blk_drew ?_ | refine blk_alloc ?_ _)); refine blk_put (cs := #[u107000, .bool a0_1]) ?_ 0 _ rfl; (with_reducible repeat (first | refine blk_drewN ?_ _ | refine blk_drew ?_ | refine blk_alloc ?_ _)); exact BK106.out⟩, ⟨by repeat (first | (with_reducible first | exact HB.out | apply below_alloc | apply pw_below_drewN | apply below_drew1 | refine below_set ?_ GE104.out | refine below_set ?_ GE105.out | refine below_set ?_ GE106.out) | exact HB.out)⟩⟩
                  · rw [if_neg c26] at H
                    exact absurd H (by simp)
          · rw [if_neg c13] at H
            exact absurd H (by simp)
        · rw [if_neg c12] at H
          exact absurd H (by simp)
      · rw [if_neg c11] at H
        have c11b0 : decide (x15_1 < (l0_0.length : Int)) = false := decide_eq_false c11
        clear c11
        simp only [Option.some.injEq, Prod.mk.injEq] at H
        obtain ⟨rfl, rfl⟩ := H
        have hnb34 := NB106_104.out
        have hnc34 := NB104_106.out
        have hnb35 := NB106_105.out
        have hnc35 := NB105_106.out
        have hcz36_0 : wr.cell? ⟨gb106, 0, none⟩ = some (u107000) := (blk_cell BK106.out 0).trans rfl
        have hcz36_1 : wr.cell? ⟨gb106, 1, none⟩ = some (.bool a0_1) := (blk_cell BK106.out 1).trans rfl
        have hfz36_0 := blk_frozen BK106.out 0
        have hfz36_1 := blk_frozen BK106.out 1
        obtain ⟨Ao37, co37, eo37⟩ := Kd.S_slice HO_107000.out
        subst eo37
        have hnb38 := NB105_104.out
        have hnc38 := NB104_105.out
        have hcz39_0 : wr.cell? ⟨gb105, 0, none⟩ = some (.slice none 0 0) := (blk_cell BK105.out 0).trans rfl
        have hcz39_1 : wr.cell? ⟨gb105, 1, none⟩ = some (.bool false) := (blk_cell BK105.out 1).trans rfl
        have hfz39_0 := blk_frozen BK105.out 0
        have hfz39_1 := blk_frozen BK105.out 1
        go_wp2
        refine bodyPost_ret (results_cell_row rfl _ _ gb105 28 #[.slice Ao37 x107000_1.length co37, .bool a0_1] (0, 0) _ rfl (by (with_reducible repeat (first | refine blk_drewN ?_ _ | refine blk_drew ?_ | refine blk_alloc ?_ _)); refine blk_put (cs := #[.slice Ao37 x107000_1.length co37, .bool false]) ?_ 1 _ rfl; (with_reducible repeat (first | refine blk_drewN ?_ _ | refine blk_drew ?_ | refine blk_alloc ?_ _)); refine blk_put (cs := #[.slice none 0 0, .bool false]) ?_ 0 _ rfl; (with_reducible repeat (first | refine blk_drewN ?_ _ | refine blk_drew ?_ | refine blk_alloc ?_ _)); exact BK105.out) Tryd.underlying28 rfl (by kernel_rfl)) rfl ?_
        exact ⟨_, by first | rfl | (simp [errW_none, errW_some] <;> rfl) | (simp [*, errW_none, errW_some] <;> rfl), by (with_reducible repeat (first | apply Kd.S_alloc | apply Kd.S_drewN | apply Kd.S_drew)); exact Kd.S_mono (Kd.S_far (p := ⟨gb105, 1, none⟩) (Kd.S_far (p := ⟨gb105, 0, none⟩) (Kd.S_types HO_107000.out BK105.out (by decide)) (fun _ hk => hk.2) (.slice Ao37 x107000_1.length co37)) (fun _ hk => hk.2) (.bool a0_1)) (fun _ hk => trivial), by repeat (first | (with_reducible first | exact HB.out | apply below_alloc | apply pw_below_drewN | apply below_drew1 | refine below_set ?_ GE104.out | refine below_set ?_ GE105.out | refine below_set ?_ GE106.out) | exact HB.out)⟩

end Go.Proofs.YthndpmjmnglhfaaDoor.Core
namespace Go.Proofs.YthndpmjmnglhfaaDoor.Core
open Go.RowKit Go.Proofs.YthndpmjmnglhfaaDoorW.PrintWords Go.Proofs.YthndpmjmnglhfaaDoorW.PrintLast Go.Proofs.YthndpmjmnglhfaaDoorW.PrintMore
attribute [local go_sem] max2_int min2_int max_two min_two max_three min_three max_four min_four   -- for this text's walks alone
set_option linter.unusedVariables false
set_option linter.unusedSimpArgs false

theorem eqA41 (d : Nat) (w : World) (x0 y0 : Bool) (x1 y1 : Int) (x2 y2 : Int) (x3 y3 : Int) :
    (Op.equalIn (d + 2) 41 (.agg #[.bool x0, .int .i64 x1, .int .i64 x2, .int .i64 x3]) (.agg #[.bool y0, .int .i64 y1, .int .i64 y2, .int .i64 y3])).run Tryd.prog w = .ok (x0 == y0 && (x1 == y1 && (x2 == y2 && (x3 == y3)))) w := by
  refine eqA_of Tryd.underlying41 (by kernel_rfl) ?_
  refine eqf_cons (by rfl) (by go_simp; rfl) (by go_simp; rfl) (by go_simp) ?_
  refine eqf_cons (by rfl) (by go_simp; rfl) (by go_simp; rfl) (by go_simp) ?_
  refine eqf_cons (by rfl) (by go_simp; rfl) (by go_simp; rfl) (by go_simp) ?_
  exact eqf_last (by rfl) (by go_simp; rfl) (by go_simp; rfl) (by go_simp)
end Go.Proofs.YthndpmjmnglhfaaDoor.Core
namespace Go.Proofs.YthndpmjmnglhfaaDoor.Core
open Go.RowKit Go.Proofs.YthndpmjmnglhfaaDoorW.PrintWords Go.Proofs.YthndpmjmnglhfaaDoorW.PrintLast Go.Proofs.YthndpmjmnglhfaaDoorW.PrintMore
attribute [local go_sem] max2_int min2_int max_two min_two max_three min_three max_four min_four   -- for this text's walks alone
set_option linter.unusedVariables false
set_option linter.unusedSimpArgs false

/-! ### spec_Low: function 15 -/
def spec_Low.f (a0 : Int) : Option (Int) := if a0 = 3 then (some 1) else (if a0 = 4 then (some 1) else (some 0))
set_option maxHeartbeats 8000000 in
set_option maxRecDepth 100000 in
theorem spec_Low.calls (a0 : Int) (r : Int) (w : World) (h : spec_Low.f a0 = some r) :
    Calls Tryd.prog 15 #[.int .i64 a0] w fun e w' => e = .returned (.int .i64 r) ∧ Drawn0 w w' := by
  have H : (if a0 = 3 then (some 1) else (if a0 = 4 then (some 1) else (some 0))) = some r := h
  clear h
  by_cases c2 : a0 = 3
  · rw [if_pos c2] at H
    have c2b0 : (a0 == 3) = true := beq_iff_eq.mpr c2
    have c2b1 : (a0 != 3) = false := bne_eq_false_iff_eq.mpr c2
    clear c2
    obtain rfl := Option.some.inj H
    go_enter Tryd.func15, Tryd.ntmps15
    go_wp2
    go_ret
    exact ⟨by first | rfl | (simp; done) | (simp [*]; done), by repeat (first | exact Drawn0.refl _ | apply Drawn0.step)⟩
  · rw [if_neg c2] at H
    have c2b0 : (a0 == 3) = false := beq_eq_false_iff_ne.mpr c2
    have c2b1 : (a0 != 3) = true := bne_iff_ne.mpr c2
    by_cases c3 : a0 = 4
    · rw [if_pos c3] at H
      have c3b0 : (a0 == 4) = true := beq_iff_eq.mpr c3
      have c3b1 : (a0 != 4) = false := bne_eq_false_iff_eq.mpr c3
      clear c3
      obtain rfl := Option.some.inj H
      go_enter Tryd.func15, Tryd.ntmps15
      go_wp2
      go_ret
      exact ⟨by first | rfl | (simp; done) | (simp [*]; done), by repeat (first | exact Drawn0.refl _ | apply Drawn0.step)⟩
    · rw [if_neg c3] at H
      have c3b0 : (a0 == 4) = false := beq_eq_false_iff_ne.mpr c3
      have c3b1 : (a0 != 4) = true := bne_iff_ne.mpr c3
      obtain rfl := Option.some.inj H
      go_enter Tryd.func15, Tryd.ntmps15
      go_wp2
      go_ret
      exact ⟨by first | rfl | (simp; done) | (simp [*]; done), by repeat (first | exact Drawn0.refl _ | apply Drawn0.step)⟩

end Go.Proofs.YthndpmjmnglhfaaDoor.Core
namespace Go.Proofs.YthndpmjmnglhfaaDoor.Core
open Go.RowKit Go.Proofs.YthndpmjmnglhfaaDoorW.PrintWords Go.Proofs.YthndpmjmnglhfaaDoorW.PrintLast Go.Proofs.YthndpmjmnglhfaaDoorW.PrintMore
attribute [local go_sem] max2_int min2_int max_two min_two max_three min_three max_four min_four   -- for this text's walks alone
set_option linter.unusedVariables false
set_option linter.unusedSimpArgs false

/-! ### spec_High: function 16 -/
def spec_High.f (a0 : Int) : Option (Int) := if 0 ≤ a0 then (if a0 < 6 then (some (rd [59, 59, 23, 31, 12, 6] a0)) else (none)) else (none)
set_option maxHeartbeats 8000000 in
set_option maxRecDepth 100000 in
theorem spec_High.calls (a0 : Int) (r : Int) (w : World) (h : spec_High.f a0 = some r) :
    Calls Tryd.prog 16 #[.int .i64 a0] w fun e w' => e = .returned (.int .i64 r) ∧ Drawn0 w w' := by
  have hu54 := Tryd.underlying54
  have H : (if 0 ≤ a0 then (if a0 < 6 then (some (rd [59, 59, 23, 31, 12, 6] a0)) else (none)) else (none)) = some r := h
  clear h
  by_cases c2 : 0 ≤ a0
  · rw [if_pos c2] at H
    have c2b0 : decide (0 ≤ a0) = true := decide_eq_true c2
    clear c2
    by_cases c3 : a0 < 6
    · rw [if_pos c3] at H
      have c3b0 : decide (a0 < 6) = true := decide_eq_true c3
      clear c3
      have hixz119_ := fun w_ : World => (index_T54 59 59 23 31 12 6 a0 (of_decide_eq_true (by first | (with_reducible assumption) | assumption)) (of_decide_eq_true (by first | (with_reducible assumption) | assumption)) w_ : (Instr.index 54 (.agg #[.int .i64 59, .int .i64 59, .int .i64 23, .int .i64 31, .int .i64 12, .int .i64 6]) (.int .i64 a0)).run Tryd.prog w_ = .ok (.int .i64 (rd [59, 59, 23, 31, 12, 6] a0)) w_)
      obtain rfl := Option.some.inj H
      go_enter Tryd.func16, Tryd.ntmps16
      go_wp2
      go_ret
      exact ⟨by first | rfl | (simp; done) | (simp [*]; done), by repeat (first | exact Drawn0.refl _ | apply Drawn0.step)⟩
    · rw [if_neg c3] at H
      exact absurd H (by simp)
  · rw [if_neg c2] at H
    exact absurd H (by simp)

end Go.Proofs.YthndpmjmnglhfaaDoor.Core
namespace Go.Proofs.YthndpmjmnglhfaaDoor.Core
open Go.RowKit Go.Proofs.YthndpmjmnglhfaaDoorW.PrintWords Go.Proofs.YthndpmjmnglhfaaDoorW.PrintLast Go.Proofs.YthndpmjmnglhfaaDoorW.PrintMore
attribute [local go_sem] max2_int min2_int max_two min_two max_three min_three max_four min_four   -- for this text's walks alone
set_option linter.unusedVariables false
set_option linter.unusedSimpArgs false

/-! ### spec_Good: function 11 -/
mutual
def spec_Good.l0 : Nat → Int → List (S41) → List (S41) → Int → Int → Option (Bool)
  | 0, _, _, _, _, _ => none
  | k + 1, x0, x1, x7, x8, x9 => if x9 < x8 then (if 0 ≤ x9 then (if x9 < (x7.length : Int) then (if ((rd_T41 x7 x9).f3) < 1 then (spec_Good.j1 k x0 x1 x7 x8 x9 true ((rd_T41 x7 x9).f0) ((rd_T41 x7 x9).f1) ((rd_T41 x7 x9).f2) ((rd_T41 x7 x9).f3)) else (spec_Good.j1 k x0 x1 x7 x8 x9 (decide (((rd_T41 x7 x9).f3) > 60)) ((rd_T41 x7 x9).f0) ((rd_T41 x7 x9).f1) ((rd_T41 x7 x9).f2) ((rd_T41 x7 x9).f3))) else (none)) else (none)) else (if (x1.length : Int) ≥ 1 then (some (decide ((x1.length : Int) ≤ 6))) else (some false))
def spec_Good.j1 : Nat → Int → List (S41) → List (S41) → Int → Int → Bool → Bool → Int → Int → Int → Option (Bool)
  | 0, _, _, _, _, _, _, _, _, _, _ => none
  | k + 1, x0, x1, x7, x8, x9, x20, x122000, x122001, x122002, x122003 => if x20 = true then (some false) else (if x122000 = true then (spec_Good.l0 k x0 x1 x7 x8 (wrap64 (x9 + 1))) else ((spec_Low.f x0).bind fun t122 => (if x122001 < t122 then (some false) else ((spec_High.f x0).bind fun t123 => (if x122002 > t123 then (some false) else (if x122001 > x122002 then (some false) else (spec_Good.l0 k x0 x1 x7 x8 (wrap64 (x9 + 1)))))))))
end
def spec_Good.f (k : Nat) (a0 : Int) (l1 : List (S41)) : Option (Bool) := spec_Good.l0 k a0 l1 l1 (l1.length : Int) 0
theorem spec_Good.mono_l : ∀ k, (∀ y0 y1 y2 y3 y4, LeO (spec_Good.l0 k y0 y1 y2 y3 y4) (spec_Good.l0 (k + 1) y0 y1 y2 y3 y4)) ∧ (∀ y0 y1 y2 y3 y4 y5 y6 y7 y8 y9, LeO (spec_Good.j1 k y0 y1 y2 y3 y4 y5 y6 y7 y8 y9) (spec_Good.j1 (k + 1) y0 y1 y2 y3 y4 y5 y6 y7 y8 y9))
  | 0 => ⟨fun _ _ _ _ _ r h => by simp [spec_Good.l0] at h, fun _ _ _ _ _ _ _ _ _ _ r h => by simp [spec_Good.j1] at h⟩
  | k + 1 => by
    obtain ⟨ih0, ih1⟩ := spec_Good.mono_l k
    refine ⟨?_, ?_⟩
    · intro y0 y1 y2 y3 y4
      unfold spec_Good.l0
      repeat' first
      | (with_reducible exact ih0 _ _ _ _ _)
      | (with_reducible exact ih1 _ _ _ _ _ _ _ _ _ _)
      | (with_reducible exact LeO.refl _)
      | (with_reducible exact LeO.none _)
      | (with_reducible refine LeO.ite ?_ ?_)
      | (with_reducible refine LeO.bind ?_ (fun _ => ?_))
      | exact ih0 _ _ _ _ _
      | exact ih1 _ _ _ _ _ _ _ _ _ _
      | exact LeO.none _
      | refine LeO.ite ?_ ?_
      | refine LeO.bind ?_ (fun _ => ?_)
    · intro y0 y1 y2 y3 y4 y5 y6 y7 y8 y9
      unfold spec_Good.j1
      repeat' first
      | (with_reducible exact ih0 _ _ _ _ _)
      | (with_reducible exact ih1 _ _ _ _ _ _ _ _ _ _)
      | (with_reducible exact LeO.refl _)
      | (with_reducible exact LeO.none _)
      | (with_reducible refine LeO.ite ?_ ?_)
      | (with_reducible refine LeO.bind ?_ (fun _ => ?_))
      | exact ih0 _ _ _ _ _
      | exact ih1 _ _ _ _ _ _ _ _ _ _
      | exact LeO.none _
      | refine LeO.ite ?_ ?_
      | refine LeO.bind ?_ (fun _ => ?_)
theorem spec_Good.mono : ∀ a0 a1 k, LeO (spec_Good.f k a0 a1) (spec_Good.f (k + 1) a0 a1) := by
  intro a0 a1 k
  obtain ⟨ih0, ih1⟩ := spec_Good.mono_l k
  unfold spec_Good.f
  repeat' first
      | (with_reducible exact ih0 _ _ _ _ _)
      | (with_reducible exact ih1 _ _ _ _ _ _ _ _ _ _)
      | (with_reducible exact LeO.refl _)
      | (with_reducible exact LeO.none _)
      | (with_reducible refine LeO.ite ?_ ?_)
      | (with_reducible refine LeO.bind ?_ (fun _ => ?_))
      | exact ih0 _ _ _ _ _
      | exact ih1 _ _ _ _ _ _ _ _ _ _
      | exact LeO.none _
      | refine LeO.ite ?_ ?_
      | refine LeO.bind ?_ (fun _ => ?_)
set_option maxHeartbeats 8000000 in
set_option maxRecDepth 100000 in
theorem spec_Good.calls (k : Nat) (a0 : Int) (A1 : Option Addr) (c1 : Nat) (l1 : List (S41)) (r : Bool) (w : World) (hr1 : Kd.C k41 w A1 l1.length l1) (hc1 : l1.length ≤ c1) (h : spec_Good.f k a0 l1 = some r) :
    Calls Tryd.prog 11 #[.int .i64 a0, .slice A1 l1.length c1] w fun e w' => e = .returned (.bool r) ∧ Below w.heap.size w w' := by
  have hu41 := Tryd.underlying41
  have HR1 := Aside0.mk hr1
  have HC1 := Aside0.mk hc1
  clear hr1 hc1
  have HB := Aside0.mk (Below.refl w.heap.size w)
  have H : (spec_Good.l0 k a0 l1 l1 (l1.length : Int) 0) = some r := h
  clear h
  have H' := Aside0.mk H
  clear H
  go_enter Tryd.func11, Tryd.ntmps11
  go_wp2
  repeat (go_quiet (fail); try go_wp2)
  go_loopg [9] k (fun kq v9 w' => ∃ (x9_1 : Int), v9 = .int .i64 x9_1 ∧ Aside0 (spec_Good.l0 kq a0 l1 l1 (l1.length : Int) x9_1 = some r) ∧ Aside0 (kq ≤ k) ∧ Aside0 (Below w.heap.size w w'))
  case atStart => exact ⟨(0), (by first | rfl | (simp; done) | (simp [*]; done)), H', ⟨Nat.le_refl _⟩, ⟨by repeat (first | (with_reducible first | exact HB.out | apply below_alloc | apply pw_below_drewN | apply below_drew1) | exact HB.out)⟩⟩
  case round =>
    clear H'
    try clear c1
    try clear p2
    obtain ⟨x9_1, rfl, HA, HK1, HB⟩ := hrel
    cases gk with
    | zero => exact absurd HA.out (by simp [spec_Good.l0])
    | succ k1 =>
      have H := HA.out
      clear HA
      simp only [spec_Good.l0] at H
      by_cases c3 : x9_1 < (l1.length : Int)
      · rw [if_pos c3] at H
        have c3b0 : decide (x9_1 < (l1.length : Int)) = true := decide_eq_true c3
        clear c3
        by_cases c4 : 0 ≤ x9_1
        · rw [if_pos c4] at H
          have c4b0 : decide (0 ≤ x9_1) = true := decide_eq_true c4
          clear c4
          by_cases c5 : x9_1 < (l1.length : Int)
          · rw [if_pos c5] at H
            have c5b0 : decide (x9_1 < (l1.length : Int)) = true := decide_eq_true c5
            clear c5
            have HC6 := Aside0.mk H
            clear H
            have p120 : 0 ≤ (x9_1 : Int) := of_decide_eq_true (by first | (with_reducible assumption) | assumption)
            have q120 : x9_1 < (l1.length : Int) := of_decide_eq_true (by first | (with_reducible assumption) | assumption)
            obtain ⟨ad120, e120, hx120_0, hx120_1, hx120_2, hx120_3⟩ := at_T41 HR1.out x9_1 p120 q120
            cases e120
            replace hx120_0 := (HB.out.cell (World.block_lt_of_cell? w _ hx120_0)).trans hx120_0
            replace hx120_1 := (HB.out.cell (World.block_lt_of_cell? w _ hx120_1)).trans hx120_1
            replace hx120_2 := (HB.out.cell (World.block_lt_of_cell? w _ hx120_2)).trans hx120_2
            replace hx120_3 := (HB.out.cell (World.block_lt_of_cell? w _ hx120_3)).trans hx120_3
            replace p120 := eq_true p120
            replace q120 := eq_true q120
            go_upto_region 4 with (first | ((with_reducible refine gate_dst (N := 6) rfl ?_); (try (refine gate_guard (by rfl) ?_; dsimp only)); refine box_event ?hg (N := 6) ?hd (cs := #[.bool false, .int .i64 0, .int .i64 0, .int .i64 0]) (t := 41) ?hr ?_; (case hd => rfl); (case hg => rfl); (case hr => first | (go_simp; done) | (go_simp; rfl)); intro gb121 hg w7 hbox hb; have n0_ := Aside0.mk (below_step (by repeat (first | (with_reducible first | exact HB.out | apply below_alloc | apply pw_below_drewN | apply below_drew1) | exact HB.out)) hb); have n1_ := Aside0.mk (hbox); have n2_ := Aside0.mk ((by rw [hg]; exact (below_size (by repeat (first | (with_reducible first | exact HB.out | apply below_alloc | apply pw_below_drewN | apply below_drew1) | exact HB.out))) : w.heap.size ≤ gb121)); have n3_ := Aside0.mk ((by rw [hg]; exact (below_size (by repeat (first | (with_reducible first | exact HB.out | apply below_alloc | apply pw_below_drewN | apply below_drew1) | exact HB.out))) : w.heap.size ≤ gb121)); clear HB; have HB := n0_; have BK121 := n1_; have GW121 := n2_; have GE121 := n3_; clear n0_ n1_ n2_ n3_; clear hb hbox hg; have hcz8_0 : w7.cell? ⟨gb121, 0, none⟩ = some (.bool false) := (blk_cell BK121.out 0).trans rfl; have hcz8_1 : w7.cell? ⟨gb121, 1, none⟩ = some (.int .i64 0) := (blk_cell BK121.out 1).trans rfl; have hcz8_2 : w7.cell? ⟨gb121, 2, none⟩ = some (.int .i64 0) := (blk_cell BK121.out 2).trans rfl; have hcz8_3 : w7.cell? ⟨gb121, 3, none⟩ = some (.int .i64 0) := (blk_cell BK121.out 3).trans rfl; have hfz8_0 := blk_frozen BK121.out 0; have hfz8_1 := blk_frozen BK121.out 1; have hfz8_2 := blk_frozen BK121.out 2; have hfz8_3 := blk_frozen BK121.out 3))
            repeat (go_quiet (first | ((with_reducible refine gate_dst (N := 6) rfl ?_); (try (refine gate_guard (by rfl) ?_; dsimp only)); refine box_event ?hg (N := 6) ?hd (cs := #[.bool false, .int .i64 0, .int .i64 0, .int .i64 0]) (t := 41) ?hr ?_; (case hd => rfl); (case hg => rfl); (case hr => first | (go_simp; done) | (go_simp; rfl)); intro gb121 hg w7 hbox hb; have n0_ := Aside0.mk (below_step (by repeat (first | (with_reducible first | exact HB.out | apply below_alloc | apply pw_below_drewN | apply below_drew1) | exact HB.out)) hb); have n1_ := Aside0.mk (hbox); have n2_ := Aside0.mk ((by rw [hg]; exact (below_size (by repeat (first | (with_reducible first | exact HB.out | apply below_alloc | apply pw_below_drewN | apply below_drew1) | exact HB.out))) : w.heap.size ≤ gb121)); have n3_ := Aside0.mk ((by rw [hg]; exact (below_size (by repeat (first | (with_reducible first | exact HB.out | apply below_alloc | apply pw_below_drewN | apply below_drew1) | exact HB.out))) : w.heap.size ≤ gb121)); clear HB; have HB := n0_; have BK121 := n1_; have GW121 := n2_; have GE121 := n3_; clear n0_ n1_ n2_ n3_; clear hb hbox hg; have hcz8_0 : w7.cell? ⟨gb121, 0, none⟩ = some (.bool false) := (blk_cell BK121.out 0).trans rfl; have hcz8_1 : w7.cell? ⟨gb121, 1, none⟩ = some (.int .i64 0) := (blk_cell BK121.out 1).trans rfl; have hcz8_2 : w7.cell? ⟨gb121, 2, none⟩ = some (.int .i64 0) := (blk_cell BK121.out 2).trans rfl; have hcz8_3 : w7.cell? ⟨gb121, 3, none⟩ = some (.int .i64 0) := (blk_cell BK121.out 3).trans rfl; have hfz8_0 := blk_frozen BK121.out 0; have hfz8_1 := blk_frozen BK121.out 1; have hfz8_2 := blk_frozen BK121.out 2; have hfz8_3 := blk_frozen BK121.out 3)); go_upto_region 4 with (first | ((with_reducible refine gate_dst (N := 6) rfl ?_); (try (refine gate_guard (by rfl) ?_; dsimp only)); refine box_event ?hg (N := 6) ?hd (cs := #[.bool false, .int .i64 0, .int .i64 0, .int .i64 0]) (t := 41) ?hr ?_; (case hd => rfl); (case hg => rfl); (case hr => first | (go_simp; done) | (go_simp; rfl)); intro gb121 hg w7 hbox hb; have n0_ := Aside0.mk (below_step (by repeat (first | (with_reducible first | exact HB.out | apply below_alloc | apply pw_below_drewN | apply below_drew1) | exact HB.out)) hb); have n1_ := Aside0.mk (hbox); have n2_ := Aside0.mk ((by rw [hg]; exact (below_size (by repeat (first | (with_reducible first | exact HB.out | apply below_alloc | apply pw_below_drewN | apply below_drew1) | exact HB.out))) : w.heap.size ≤ gb121)); have n3_ := Aside0.mk ((by rw [hg]; exact (below_size (by repeat (first | (with_reducible first | exact HB.out | apply below_alloc | apply pw_below_drewN | apply below_drew1) | exact HB.out))) : w.heap.size ≤ gb121)); clear HB; have HB := n0_; have BK121 := n1_; have GW121 := n2_; have GE121 := n3_; clear n0_ n1_ n2_ n3_; clear hb hbox hg; have hcz8_0 : w7.cell? ⟨gb121, 0, none⟩ = some (.bool false) := (blk_cell BK121.out 0).trans rfl; have hcz8_1 : w7.cell? ⟨gb121, 1, none⟩ = some (.int .i64 0) := (blk_cell BK121.out 1).trans rfl; have hcz8_2 : w7.cell? ⟨gb121, 2, none⟩ = some (.int .i64 0) := (blk_cell BK121.out 2).trans rfl; have hcz8_3 : w7.cell? ⟨gb121, 3, none⟩ = some (.int .i64 0) := (blk_cell BK121.out 3).trans rfl; have hfz8_0 := blk_frozen BK121.out 0; have hfz8_1 := blk_frozen BK121.out 1; have hfz8_2 := blk_frozen BK121.out 2; have hfz8_3 := blk_frozen BK121.out 3)))
            (try simp only [Act.put, List.setIfInBounds_toArray, List.set_cons_zero, List.set_cons_succ])
            go_cut [20] (fun v20 wc => ∃ (kq : Nat) (x20_5 : Bool), v20 = .bool x20_5 ∧ Aside0 (spec_Good.j1 kq a0 l1 l1 (l1.length : Int) x9_1 x20_5 ((rd_T41 l1 x9_1).f0) ((rd_T41 l1 x9_1).f1) ((rd_T41 l1 x9_1).f2) ((rd_T41 l1 x9_1).f3) = some r) ∧ Aside0 (kq ≤ k1) ∧ Aside0 (wc.heap[gb121]? = some (.cells #[.bool ((rd_T41 l1 x9_1).f0), .int .i64 ((rd_T41 l1 x9_1).f1), .int .i64 ((rd_T41 l1 x9_1).f2), .int .i64 ((rd_T41 l1 x9_1).f3)] 41 (0, 0))) ∧ Aside0 (Below w.heap.size w wc))
            case first =>
              have H := HC6.out
              clear HC6
              by_cases c9 : ((rd_T41 l1 x9_1).f3) < 1
              · rw [if_pos c9] at H
                have c9b0 : decide (((rd_T41 l1 x9_1).f3) < 1) = true := decide_eq_true c9
                clear c9
                (first | rw [c9b0] | (simp only [i64_w, i32_w]; rw [c9b0]) | skip)
                have H' := Aside0.mk H
                clear H
                have hcz10_0 : w7.cell? ⟨gb121, 0, none⟩ = some (.bool false) := (blk_cell BK121.out 0).trans rfl
                have hcz10_1 : w7.cell? ⟨gb121, 1, none⟩ = some (.int .i64 0) := (blk_cell BK121.out 1).trans rfl
                have hcz10_2 : w7.cell? ⟨gb121, 2, none⟩ = some (.int .i64 0) := (blk_cell BK121.out 2).trans rfl
                have hcz10_3 : w7.cell? ⟨gb121, 3, none⟩ = some (.int .i64 0) := (blk_cell BK121.out 3).trans rfl
                have hfz10_0 := blk_frozen BK121.out 0
                have hfz10_1 := blk_frozen BK121.out 1
                have hfz10_2 := blk_frozen BK121.out 2
                have hfz10_3 := blk_frozen BK121.out 3
                go_wp2
                repeat (go_quiet (fail); try go_wp2)
                go_meet
                case rel => exact ⟨_, (true), (by first | rfl | (simp; done) | (simp [*]; done)), H', ⟨by have := HK1.out; first | omega | exact Nat.le_refl _⟩, ⟨by (with_reducible repeat (first | refine blk_drewN ?_ _ | refine blk_drew ?_ | refine blk_alloc ?_ _)); refine blk_put (cs := #[.bool ((rd_T41 l1 x9_1).f0), .int .i64 ((rd_T41 l1 x9_1).f1), .int .i64 ((rd_T41 l1 x9_1).f2), .int .i64 0]) ?_ 3 _ rfl; (with_reducible repeat (first | refine blk_drewN ?_ _ | refine blk_drew ?_ | refine blk_alloc ?_ _)); refine blk_put (cs := #[.bool ((rd_T41 l1 x9_1).f0), .int .i64 ((rd_T41 l1 x9_1).f1), .int .i64 0, .int .i64 0]) ?_ 2 _ rfl; (with_reducible repeat (first | refine blk_drewN ?_ _ | refine blk_drew ?_ | refine blk_alloc ?_ _)); refine blk_put (cs := #[.bool ((rd_T41 l1 x9_1).f0), .int .i64 0, .int .i64 0, .int .i64 0]) ?_ 1 _ rfl; (with_reducible repeat (first | refine blk_drewN ?_ _ | refine blk_drew ?_ | refine blk_alloc ?_ _)); refine blk_put (cs := #[.bool false, .int .i64 0, .int .i64 0, .int .i64 0]) ?_ 0 _ rfl; (with_reducible repeat (first | refine blk_drewN ?_ _ | refine blk_drew ?_ | refine blk_alloc ?_ _)); exact BK121.out⟩, ⟨by repeat (first | (with_reducible first | exact HB.out | apply below_alloc | apply pw_below_drewN | apply below_drew1 | refine below_set ?_ GE121.out) | exact HB.out)⟩⟩
              · rw [if_neg c9] at H
                have c9b0 : decide (((rd_T41 l1 x9_1).f3) < 1) = false := decide_eq_false c9
                clear c9
                (first | rw [c9b0] | (simp only [i64_w, i32_w]; rw [c9b0]) | skip)
                have H' := Aside0.mk H
                clear H
                have hcz11_0 : w7.cell? ⟨gb121, 0, none⟩ = some (.bool false) := (blk_cell BK121.out 0).trans rfl
                have hcz11_1 : w7.cell? ⟨gb121, 1, none⟩ = some (.int .i64 0) := (blk_cell BK121.out 1).trans rfl
                have hcz11_2 : w7.cell? ⟨gb121, 2, none⟩ = some (.int .i64 0) := (blk_cell BK121.out 2).trans rfl
                have hcz11_3 : w7.cell? ⟨gb121, 3, none⟩ = some (.int .i64 0) := (blk_cell BK121.out 3).trans rfl
                have hfz11_0 := blk_frozen BK121.out 0
                have hfz11_1 := blk_frozen BK121.out 1
                have hfz11_2 := blk_frozen BK121.out 2
                have hfz11_3 := blk_frozen BK121.out 3
                go_wp2
                repeat (go_quiet (fail); try go_wp2)
                go_meet
                case rel => exact ⟨_, (decide (((rd_T41 l1 x9_1).f3) > 60)), (by first | rfl | (simp; done) | (simp [*]; done)), H', ⟨by have := HK1.out; first | omega | exact Nat.le_refl _⟩, ⟨by (with_reducible repeat (first | refine blk_drewN ?_ _ | refine blk_drew ?_ | refine blk_alloc ?_ _)); refine blk_put (cs := #[.bool ((rd_T41 l1 x9_1).f0), .int .i64 ((rd_T41 l1 x9_1).f1), .int .i64 ((rd_T41 l1 x9_1).f2), .int .i64 0]) ?_ 3 _ rfl; (with_reducible repeat (first | refine blk_drewN ?_ _ | refine blk_drew ?_ | refine blk_alloc ?_ _)); refine blk_put (cs := #[.bool ((rd_T41 l1 x9_1).f0), .int .i64 ((rd_T41 l1 x9_1).f1), .int .i64 0, .int .i64 0]) ?_ 2 _ rfl; (with_reducible repeat (first | refine blk_drewN ?_ _ | refine blk_drew ?_ | refine blk_alloc ?_ _)); refine blk_put (cs := #[.bool ((rd_T41 l1 x9_1).f0), .int .i64 0, .int .i64 0, .int .i64 0]) ?_ 1 _ rfl; (with_reducible repeat (first | refine blk_drewN ?_ _ | refine blk_drew ?_ | refine blk_alloc ?_ _)); refine blk_put (cs := #[.bool false, .int .i64 0, .int .i64 0, .int .i64 0]) ?_ 0 _ rfl; (with_reducible repeat (first | refine blk_drewN ?_ _ | refine blk_drew ?_ | refine blk_alloc ?_ _)); exact BK121.out⟩, ⟨by repeat (first | (with_reducible first | exact HB.out | apply below_alloc | apply pw_below_drewN | apply below_drew1 | refine below_set ?_ GE121.out) | exact HB.out)⟩⟩
            case rest =>
              clear HC6
              try clear c1
              try clear p1
              try clear q1
              try clear hx1
              try clear p2
              try clear c3
              try clear c3b0
              try clear c4
              try clear c4b0
              try clear c5
              try clear c5b0
              try clear c9
              try clear c9b0
              try clear c11
              try clear hcz10_0
              try clear hcz10_1
              try clear hcz10_2
              try clear hcz10_3
              try clear hcz11_0
              try clear hcz11_1
              try clear hcz11_2
              try clear hcz11_3
              try clear hcz8_0
              try clear hcz8_1
              try clear hcz8_2
              try clear hcz8_3
              try clear hfz10_0
              try clear hfz10_1
              try clear hfz10_2
              try clear hfz10_3
              try clear hfz11_0
              try clear hfz11_1
              try clear hfz11_2
              try clear hfz11_3
              try clear hfz8_0
              try clear hfz8_1
              try clear hfz8_2
              try clear hfz8_3
              try clear hx120_0
              try clear hx120_1
              try clear hx120_2
              try clear hx120_3
              try clear p120
              try clear p2
              try clear q120
              obtain ⟨kq, x20_5, rfl, HA, HJ5, BK121, HB⟩ := hcut
              cases kq with
              | zero => exact absurd HA.out (by simp [spec_Good.j1])
              | succ kj5 =>
                have H := HA.out
                clear HA
                simp only [spec_Good.j1] at H
                by_cases c12 : x20_5 = true
                · subst c12
                  have H1 : (some false) = some r := by rw [if_pos rfl] at H; exact H
                  clear H
                  have H := H1
                  clear H1
                  obtain rfl := Option.some.inj H
                  go_wp2
                  repeat (go_quiet (fail); try go_wp2)
                  go_ret
                  exact ⟨by first | rfl | (simp [errW_none, errW_some] <;> rfl) | (simp [*, errW_none, errW_some] <;> rfl), by repeat (first | (with_reducible first | exact HB.out | apply below_alloc | apply pw_below_drewN | apply below_drew1 | refine below_set ?_ GE121.out) | exact HB.out)⟩
                · replace c12 := Bool.eq_false_iff.mpr c12
                  subst c12
                  have H1 : (if ((rd_T41 l1 x9_1).f0) = true then (spec_Good.l0 kj5 a0 l1 l1 (l1.length : Int) (wrap64 (x9_1 + 1))) else ((spec_Low.f a0).bind fun t122 => (if ((rd_T41 l1 x9_1).f1) < t122 then (some false) else ((spec_High.f a0).bind fun t123 => (if ((rd_T41 l1 x9_1).f2) > t123 then (some false) else (if ((rd_T41 l1 x9_1).f1) > ((rd_T41 l1 x9_1).f2) then (some false) else (spec_Good.l0 kj5 a0 l1 l1 (l1.length : Int) (wrap64 (x9_1 + 1))))))))) = some r := by rw [if_neg (show ¬ (false = true) by decide)] at H; exact H
                  clear H
                  have H := H1
                  clear H1
                  by_cases c13 : ((rd_T41 l1 x9_1).f0) = true
                  · rw [if_pos c13] at H
                    have c13b0 : ((rd_T41 l1 x9_1).f0) = true := c13
                    clear c13
                    have H' := Aside0.mk H
                    clear H
                    have hcz14_0 : wc.cell? ⟨gb121, 0, none⟩ = some (.bool ((rd_T41 l1 x9_1).f0)) := (blk_cell BK121.out 0).trans rfl
                    have hcz14_1 : wc.cell? ⟨gb121, 1, none⟩ = some (.int .i64 ((rd_T41 l1 x9_1).f1)) := (blk_cell BK121.out 1).trans rfl
                    have hcz14_2 : wc.cell? ⟨gb121, 2, none⟩ = some (.int .i64 ((rd_T41 l1 x9_1).f2)) := (blk_cell BK121.out 2).trans rfl
                    have hcz14_3 : wc.cell? ⟨gb121, 3, none⟩ = some (.int .i64 ((rd_T41 l1 x9_1).f3)) := (blk_cell BK121.out 3).trans rfl
                    have hfz14_0 := blk_frozen BK121.out 0
                    have hfz14_1 := blk_frozen BK121.out 1
                    have hfz14_2 := blk_frozen BK121.out 2
                    have hfz14_3 := blk_frozen BK121.out 3
                    go_wp2
                    repeat (go_quiet (fail); try go_wp2)
                    go_roundg kj5
                    case measure => have := HK1.out; have := HJ5.out; omega
                    case rel => exact ⟨(wrap64 (x9_1 + 1)), (by first | rfl | (simp; done) | (simp [*]; done)), H', ⟨by have := HK1.out; have := HJ5.out; omega⟩, ⟨by repeat (first | (with_reducible first | exact HB.out | apply below_alloc | apply pw_below_drewN | apply below_drew1 | refine below_set ?_ GE121.out) | exact HB.out)⟩⟩
                  · rw [if_neg c13] at H
                    have c13b0 : ((rd_T41 l1 x9_1).f0) = false := by simpa using c13
                    clear c13
                    replace H := Option.bind_eq_some_iff.mp H
                    obtain ⟨t122, A150, H⟩ := H
                    replace H : (if ((rd_T41 l1 x9_1).f1) < t122 then (some false) else ((spec_High.f a0).bind fun t123 => (if ((rd_T41 l1 x9_1).f2) > t123 then (some false) else (if ((rd_T41 l1 x9_1).f1) > ((rd_T41 l1 x9_1).f2) then (some false) else (spec_Good.l0 kj5 a0 l1 l1 (l1.length : Int) (wrap64 (x9_1 + 1))))))) = some r := H
                    have A15 := Aside0.mk A150
                    clear A150
                    by_cases c16 : ((rd_T41 l1 x9_1).f1) < t122
                    · rw [if_pos c16] at H
                      have c16b0 : decide (((rd_T41 l1 x9_1).f1) < t122) = true := decide_eq_true c16
                      clear c16
                      obtain rfl := Option.some.inj H
                      have hcz17_0 : wc.cell? ⟨gb121, 0, none⟩ = some (.bool ((rd_T41 l1 x9_1).f0)) := (blk_cell BK121.out 0).trans rfl
                      have hcz17_1 : wc.cell? ⟨gb121, 1, none⟩ = some (.int .i64 ((rd_T41 l1 x9_1).f1)) := (blk_cell BK121.out 1).trans rfl
                      have hcz17_2 : wc.cell? ⟨gb121, 2, none⟩ = some (.int .i64 ((rd_T41 l1 x9_1).f2)) := (blk_cell BK121.out 2).trans rfl
                      have hcz17_3 : wc.cell? ⟨gb121, 3, none⟩ = some (.int .i64 ((rd_T41 l1 x9_1).f3)) := (blk_cell BK121.out 3).trans rfl
                      have hfz17_0 := blk_frozen BK121.out 0
                      have hfz17_1 := blk_frozen BK121.out 1
                      have hfz17_2 := blk_frozen BK121.out 2
                      have hfz17_3 := blk_frozen BK121.out 3
                      go_wp2_with (first | (go_at_call 15; (with_reducible refine (spec_Low.calls a0 t122 _ A15.out).mono ?_); rintro e w' ⟨rfl, ⟨nd, rfl⟩⟩; (try first | exact ⟨rfl, _, World.drewN_drewN _ _ _⟩ | exact ⟨rfl, _, Eq.trans (World.drewN_drewN _ _ _) (congrArg (World.drewN _) (Nat.add_assoc _ _ _))⟩)))
                      repeat (go_quiet (first | (go_at_call 15; (with_reducible refine (spec_Low.calls a0 t122 _ A15.out).mono ?_); rintro e w' ⟨rfl, ⟨nd, rfl⟩⟩; (try first | exact ⟨rfl, _, World.drewN_drewN _ _ _⟩ | exact ⟨rfl, _, Eq.trans (World.drewN_drewN _ _ _) (congrArg (World.drewN _) (Nat.add_assoc _ _ _))⟩))); try go_wp2_with (first | (go_at_call 15; (with_reducible refine (spec_Low.calls a0 t122 _ A15.out).mono ?_); rintro e w' ⟨rfl, ⟨nd, rfl⟩⟩; (try first | exact ⟨rfl, _, World.drewN_drewN _ _ _⟩ | exact ⟨rfl, _, Eq.trans (World.drewN_drewN _ _ _) (congrArg (World.drewN _) (Nat.add_assoc _ _ _))⟩))))
                      go_ret
                      exact ⟨by first | rfl | (simp [errW_none, errW_some] <;> rfl) | (simp [*, errW_none, errW_some] <;> rfl), by repeat (first | (with_reducible first | exact HB.out | apply below_alloc | apply pw_below_drewN | apply below_drew1 | refine below_set ?_ GE121.out) | exact HB.out)⟩
                    · rw [if_neg c16] at H
                      have c16b0 : decide (((rd_T41 l1 x9_1).f1) < t122) = false := decide_eq_false c16
                      clear c16
                      replace H := Option.bind_eq_some_iff.mp H
                      obtain ⟨t123, A180, H⟩ := H
                      replace H : (if ((rd_T41 l1 x9_1).f2) > t123 then (some false) else (if ((rd_T41 l1 x9_1).f1) > ((rd_T41 l1 x9_1).f2) then (some false) else (spec_Good.l0 kj5 a0 l1 l1 (l1.length : Int) (wrap64 (x9_1 + 1))))) = some r := H
                      have A18 := Aside0.mk A180
                      clear A180
                      by_cases c19 : ((rd_T41 l1 x9_1).f2) > t123
                      · rw [if_pos c19] at H
                        have c19b0 : decide (t123 < ((rd_T41 l1 x9_1).f2)) = true := decide_eq_true c19
                        clear c19
                        obtain rfl := Option.some.inj H
                        have hcz20_0 : wc.cell? ⟨gb121, 0, none⟩ = some (.bool ((rd_T41 l1 x9_1).f0)) := (blk_cell BK121.out 0).trans rfl
                        have hcz20_1 : wc.cell? ⟨gb121, 1, none⟩ = some (.int .i64 ((rd_T41 l1 x9_1).f1)) := (blk_cell BK121.out 1).trans rfl
                        have hcz20_2 : wc.cell? ⟨gb121, 2, none⟩ = some (.int .i64 ((rd_T41 l1 x9_1).f2)) := (blk_cell BK121.out 2).trans rfl
                        have hcz20_3 : wc.cell? ⟨gb121, 3, none⟩ = some (.int .i64 ((rd_T41 l1 x9_1).f3)) := (blk_cell BK121.out 3).trans rfl
                        have hfz20_0 := blk_frozen BK121.out 0
                        have hfz20_1 := blk_frozen BK121.out 1
                        have hfz20_2 := blk_frozen BK121.out 2
                        have hfz20_3 := blk_frozen BK121.out 3
                        go_wp2_with (first | (go_at_call 15; (with_reducible refine (spec_Low.calls a0 t122 _ A15.out).mono ?_); rintro e w' ⟨rfl, ⟨nd, rfl⟩⟩; (try first | exact ⟨rfl, _, World.drewN_drewN _ _ _⟩ | exact ⟨rfl, _, Eq.trans (World.drewN_drewN _ _ _) (congrArg (World.drewN _) (Nat.add_assoc _ _ _))⟩)) | (go_at_call 16; (with_reducible refine (spec_High.calls a0 t123 _ A18.out).mono ?_); rintro e w' ⟨rfl, ⟨nd, rfl⟩⟩; (try first | exact ⟨rfl, _, World.drewN_drewN _ _ _⟩ | exact ⟨rfl, _, Eq.trans (World.drewN_drewN _ _ _) (congrArg (World.drewN _) (Nat.add_assoc _ _ _))⟩)))
                        repeat (go_quiet (first | (go_at_call 15; (with_reducible refine (spec_Low.calls a0 t122 _ A15.out).mono ?_); rintro e w' ⟨rfl, ⟨nd, rfl⟩⟩; (try first | exact ⟨rfl, _, World.drewN_drewN _ _ _⟩ | exact ⟨rfl, _, Eq.trans (World.drewN_drewN _ _ _) (congrArg (World.drewN _) (Nat.add_assoc _ _ _))⟩)) | (go_at_call 16; (with_reducible refine (spec_High.calls a0 t123 _ A18.out).mono ?_); rintro e w' ⟨rfl, ⟨nd, rfl⟩⟩; (try first | exact ⟨rfl, _, World.drewN_drewN _ _ _⟩ | exact ⟨rfl, _, Eq.trans (World.drewN_drewN _ _ _) (congrArg (World.drewN _) (Nat.add_assoc _ _ _))⟩))); try go_wp2_with (first | (go_at_call 15; (with_reducible refine (spec_Low.calls a0 t122 _ A15.out).mono ?_); rintro e w' ⟨rfl, ⟨nd, rfl⟩⟩; (try first | exact ⟨rfl, _, World.drewN_drewN _ _ _⟩ | exact ⟨rfl, _, Eq.trans (World.drewN_drewN _ _ _) (congrArg (World.drewN _) (Nat.add_assoc _ _ _))⟩)) | (go_at_call 16; (with_reducible refine (spec_High.calls a0 t123 _ A18.out).mono ?_); rintro e w' ⟨rfl, ⟨nd, rfl⟩⟩; (try first | exact ⟨rfl, _, World.drewN_drewN _ _ _⟩ | exact ⟨rfl, _, Eq.trans (World.drewN_drewN _ _ _) (congrArg (World.drewN _) (Nat.add_assoc _ _ _))⟩))))
                        go_ret
                        exact ⟨by first | rfl | (simp [errW_none, errW_some] <;> rfl) | (simp [*, errW_none, errW_some] <;> rfl), by repeat (first | (with_reducible first | exact HB.out | apply below_alloc | apply pw_below_drewN | apply below_drew1 | refine below_set ?_ GE121.out) | exact HB.out)⟩
                      · rw [if_neg c19] at H
                        have c19b0 : decide (t123 < ((rd_T41 l1 x9_1).f2)) = false := decide_eq_false c19
                        clear c19
                        by_cases c21 : ((rd_T41 l1 x9_1).f1) > ((rd_T41 l1 x9_1).f2)
                        · rw [if_pos c21] at H
                          have c21b0 : decide (((rd_T41 l1 x9_1).f2) < ((rd_T41 l1 x9_1).f1)) = true := decide_eq_true c21
                          clear c21
                          obtain rfl := Option.some.inj H
                          have hcz22_0 : wc.cell? ⟨gb121, 0, none⟩ = some (.bool ((rd_T41 l1 x9_1).f0)) := (blk_cell BK121.out 0).trans rfl
                          have hcz22_1 : wc.cell? ⟨gb121, 1, none⟩ = some (.int .i64 ((rd_T41 l1 x9_1).f1)) := (blk_cell BK121.out 1).trans rfl
                          have hcz22_2 : wc.cell? ⟨gb121, 2, none⟩ = some (.int .i64 ((rd_T41 l1 x9_1).f2)) := (blk_cell BK121.out 2).trans rfl
                          have hcz22_3 : wc.cell? ⟨gb121, 3, none⟩ = some (.int .i64 ((rd_T41 l1 x9_1).f3)) := (blk_cell BK121.out 3).trans rfl
                          have hfz22_0 := blk_frozen BK121.out 0
                          have hfz22_1 := blk_frozen BK121.out 1
                          have hfz22_2 := blk_frozen BK121.out 2
                          have hfz22_3 := blk_frozen BK121.out 3
                          go_wp2_with (first | (go_at_call 15; (with_reducible refine (spec_Low.calls a0 t122 _ A15.out).mono ?_); rintro e w' ⟨rfl, ⟨nd, rfl⟩⟩; (try first | exact ⟨rfl, _, World.drewN_drewN _ _ _⟩ | exact ⟨rfl, _, Eq.trans (World.drewN_drewN _ _ _) (congrArg (World.drewN _) (Nat.add_assoc _ _ _))⟩)) | (go_at_call 16; (with_reducible refine (spec_High.calls a0 t123 _ A18.out).mono ?_); rintro e w' ⟨rfl, ⟨nd, rfl⟩⟩; (try first | exact ⟨rfl, _, World.drewN_drewN _ _ _⟩ | exact ⟨rfl, _, Eq.trans (World.drewN_drewN _ _ _) (congrArg (World.drewN _) (Nat.add_assoc _ _ _))⟩)))
                          repeat (go_quiet (first | (go_at_call 15; (with_reducible refine (spec_Low.calls a0 t122 _ A15.out).mono ?_); rintro e w' ⟨rfl, ⟨nd, rfl⟩⟩; (try first | exact ⟨rfl, _, World.drewN_drewN _ _ _⟩ | exact ⟨rfl, _, Eq.trans (World.drewN_drewN _ _ _) (congrArg (World.drewN _) (Nat.add_assoc _ _ _))⟩)) | (go_at_call 16; (with_reducible refine (spec_High.calls a0 t123 _ A18.out).mono ?_); rintro e w' ⟨rfl, ⟨nd, rfl⟩⟩; (try first | exact ⟨rfl, _, World.drewN_drewN _ _ _⟩ | exact ⟨rfl, _, Eq.trans (World.drewN_drewN _ _ _) (congrArg (World.drewN _) (Nat.add_assoc _ _ _))⟩))); try go_wp2_with (first | (go_at_call 15; (with_reducible refine (spec_Low.calls a0 t122 _ A15.out).mono ?_); rintro e w' ⟨rfl, ⟨nd, rfl⟩⟩; (try first | exact ⟨rfl, _, World.drewN_drewN _ _ _⟩ | exact ⟨rfl, _, Eq.trans (World.drewN_drewN _ _ _) (congrArg (World.drewN _) (Nat.add_assoc _ _ _))⟩)) | (go_at_call 16; (with_reducible refine (spec_High.calls a0 t123 _ A18.out).mono ?_); rintro e w' ⟨rfl, ⟨nd, rfl⟩⟩; (try first | exact ⟨rfl, _, World.drewN_drewN _ _ _⟩ | exact ⟨rfl, _, Eq.trans (World.drewN_drewN _ _ _) (congrArg (World.drewN _) (Nat.add_assoc _ _ _))⟩))))
                          go_ret
                          exact ⟨by first | rfl | (simp [errW_none, errW_some] <;> rfl) | (simp [*, errW_none, errW_some] <;> rfl), by repeat (first | (with_reducible first | exact HB.out | apply below_alloc | apply pw_below_drewN | apply below_drew1 | refine below_set ?_ GE121.out) | exact HB.out)⟩
                        · rw [if_neg c21] at H
                          have c21b0 : decide (((rd_T41 l1 x9_1).f2) < ((rd_T41 l1 x9_1).f1)) = false := decide_eq_false c21
                          clear c21
                          have H' := Aside0.mk H
                          clear H
                          have hcz23_0 : wc.cell? ⟨gb121, 0, none⟩ = some (.bool ((rd_T41 l1 x9_1).f0)) := (blk_cell BK121.out 0).trans rfl
                          have hcz23_1 : wc.cell? ⟨gb121, 1, none⟩ = some (.int .i64 ((rd_T41 l1 x9_1).f1)) := (blk_cell BK121.out 1).trans rfl
                          have hcz23_2 : wc.cell? ⟨gb121, 2, none⟩ = some (.int .i64 ((rd_T41 l1 x9_1).f2)) := (blk_cell BK121.out 2).trans rfl
                          have hcz23_3 : wc.cell? ⟨gb121, 3, none⟩ = some (.int .i64 ((rd_T41 l1 x9_1).f3)) := (blk_cell BK121.out 3).trans rfl
                          have hfz23_0 := blk_frozen BK121.out 0
                          have hfz23_1 := blk_frozen BK121.out 1
                          have hfz23_2 := blk_frozen BK121.out 2
                          have hfz23_3 := blk_frozen BK121.out 3
                          go_wp2_with (first | (go_at_call 15; (with_reducible refine (spec_Low.calls a0 t122 _ A15.out).mono ?_); rintro e w' ⟨rfl, ⟨nd, rfl⟩⟩; (try first | exact ⟨rfl, _, World.drewN_drewN _ _ _⟩ | exact ⟨rfl, _, Eq.trans (World.drewN_drewN _ _ _) (congrArg (World.drewN _) (Nat.add_assoc _ _ _))⟩)) | (go_at_call 16; (with_reducible refine (spec_High.calls a0 t123 _ A18.out).mono ?_); rintro e w' ⟨rfl, ⟨nd, rfl⟩⟩; (try first | exact ⟨rfl, _, World.drewN_drewN _ _ _⟩ | exact ⟨rfl, _, Eq.trans (World.drewN_drewN _ _ _) (congrArg (World.drewN _) (Nat.add_assoc _ _ _))⟩)))
                          repeat (go_quiet (first | (go_at_call 15; (with_reducible refine (spec_Low.calls a0 t122 _ A15.out).mono ?_); rintro e w' ⟨rfl, ⟨nd, rfl⟩⟩; (try first | exact ⟨rfl, _, World.drewN_drewN _ _ _⟩ | exact ⟨rfl, _, Eq.trans (World.drewN_drewN _ _ _) (congrArg (World.drewN _) (Nat.add_assoc _ _ _))⟩)) | (go_at_call 16; (with_reducible refine (spec_High.calls a0 t123 _ A18.out).mono ?_); rintro e w' ⟨rfl, ⟨nd, rfl⟩⟩; (try first | exact ⟨rfl, _, World.drewN_drewN _ _ _⟩ | exact ⟨rfl, _, Eq.trans (World.drewN_drewN _ _ _) (congrArg (World.drewN _) (Nat.add_assoc _ _ _))⟩))); try go_wp2_with (first | (go_at_call 15; (with_reducible refine (spec_Low.calls a0 t122 _ A15.out).mono ?_); rintro e w' ⟨rfl, ⟨nd, rfl⟩⟩; (try first | exact ⟨rfl, _, World.drewN_drewN _ _ _⟩ | exact ⟨rfl, _, Eq.trans (World.drewN_drewN _ _ _) (congrArg (World.drewN _) (Nat.add_assoc _ _ _))⟩)) | (go_at_call 16; (with_reducible refine (spec_High.calls a0 t123 _ A18.out).mono ?_); rintro e w' ⟨rfl, ⟨nd, rfl⟩⟩; (try first | exact ⟨rfl, _, World.drewN_drewN _ _ _⟩ | exact ⟨rfl, _, Eq.trans (World.drewN_drewN _ _ _) (congrArg (World.drewN _) (Nat.add_assoc _ _ _))⟩))))
                          go_roundg kj5
                          case measure => have := HK1.out; have := HJ5.out; omega
                          case rel => exact ⟨(wrap64 (x9_1 + 1)), (by first | rfl | (simp; done) | (simp [*]; done)), H', ⟨by have := HK1.out; have := HJ5.out; omega⟩, ⟨by repeat (first | (with_reducible first | exact HB.out | apply below_alloc | apply pw_below_drewN | apply below_drew1 | refine below_set ?_ GE121.out) | exact HB.out)⟩⟩
          · rw [if_neg c5] at H
            exact absurd H (by simp)
        · rw [if_neg c4] at H
          exact absurd H (by simp)
      · rw [if_neg c3] at H
        have c3b0 : decide (x9_1 < (l1.length : Int)) = false := decide_eq_false c3
        clear c3
        by_cases c24 : (l1.length : Int) ≥ 1
        · rw [if_pos c24] at H
          have c24b0 : decide (1 ≤ (l1.length : Int)) = true := decide_eq_true c24
          have c24b1 : decide (1 ≤ l1.length) = true := decide_eq_true (by omega)
          clear c24
          obtain rfl := Option.some.inj H
          go_wp2
          repeat (go_quiet (fail); try go_wp2)
          go_ret
          exact ⟨by first | rfl | (simp [errW_none, errW_some] <;> rfl) | (simp [*, errW_none, errW_some] <;> rfl), by repeat (first | (with_reducible first | exact HB.out | apply below_alloc | apply pw_below_drewN | apply below_drew1) | exact HB.out)⟩
        · rw [if_neg c24] at H
          have c24b0 : decide (1 ≤ (l1.length : Int)) = false := decide_eq_false c24
          have c24b1 : decide (1 ≤ l1.length) = false := decide_eq_false (by omega)
          clear c24
          obtain rfl := Option.some.inj H
          go_wp2
          repeat (go_quiet (fail); try go_wp2)
          go_ret
          exact ⟨by first | rfl | (simp [errW_none, errW_some] <;> rfl) | (simp [*, errW_none, errW_some] <;> rfl), by repeat (first | (with_reducible first | exact HB.out | apply below_alloc | apply pw_below_drewN | apply below_drew1) | exact HB.out)⟩

end Go.Proofs.YthndpmjmnglhfaaDoor.Core
namespace Go.Proofs.YthndpmjmnglhfaaDoor.Core
open Go.RowKit Go.Proofs.YthndpmjmnglhfaaDoorW.PrintWords Go.Proofs.YthndpmjmnglhfaaDoorW.PrintLast Go.Proofs.YthndpmjmnglhfaaDoorW.PrintMore
attribute [local go_sem] max2_int min2_int max_two min_two max_three min_three max_four min_four   -- for this text's walks alone
set_option linter.unusedVariables false
set_option linter.unusedSimpArgs false

/-! ### spec_Star: function 12 -/
def spec_Star.f (l0 : List (S41)) : Option (Bool) := if (l0.length : Int) = 1 then (if 0 < (l0.length : Int) then (if (rd_T41 l0 0).f0 = true then (some (((rd_T41 l0 0).f3) == 1)) else (some false)) else (none)) else (some false)
set_option maxHeartbeats 8000000 in
set_option maxRecDepth 100000 in
theorem spec_Star.calls (A0 : Option Addr) (c0 : Nat) (l0 : List (S41)) (r : Bool) (w : World) (hr0 : Kd.C k41 w A0 l0.length l0) (hc0 : l0.length ≤ c0) (h : spec_Star.f l0 = some r) :
    Calls Tryd.prog 12 #[.slice A0 l0.length c0] w fun e w' => e = .returned (.bool r) ∧ Drawn0 w w' := by
  have HR0 := Aside0.mk hr0
  have HC0 := Aside0.mk hc0
  clear hr0 hc0
  have H : (if (l0.length : Int) = 1 then (if 0 < (l0.length : Int) then (if (rd_T41 l0 0).f0 = true then (some (((rd_T41 l0 0).f3) == 1)) else (some false)) else (none)) else (some false)) = some r := h
  clear h
  by_cases c2 : (l0.length : Int) = 1
  · rw [if_pos c2] at H
    have c2b0 : ((l0.length : Int) == 1) = true := beq_iff_eq.mpr c2
    have c2b1 : ((l0.length : Int) != 1) = false := bne_eq_false_iff_eq.mpr c2
    clear c2
    by_cases c3 : 0 < (l0.length : Int)
    · rw [if_pos c3] at H
      have c3b0 : decide (0 < (l0.length : Int)) = true := decide_eq_true c3
      have c3b1 : decide (0 < l0.length) = true := decide_eq_true (by omega)
      clear c3
      obtain ⟨bq4, hbq4⟩ : ∃ b_ : Bool, b_ = ((rd_T41 l0 0).f0) := ⟨_, rfl⟩
      replace H : (if bq4 = true then (some (((rd_T41 l0 0).f3) == 1)) else (some false)) = some r := by rw [← hbq4] at H; exact H
      have Nbq4 := Aside0.mk hbq4
      clear hbq4
      by_cases c5 : bq4 = true
      · subst c5
        have H1 : (some (((rd_T41 l0 0).f3) == 1)) = some r := by rw [if_pos rfl] at H; exact H
        clear H
        have H := H1
        clear H1
        obtain rfl := Option.some.inj H
        have p124 : 0 ≤ (0 : Int) := (by omega)
        have q124 : 0 < (l0.length : Int) := of_decide_eq_true (by first | (with_reducible assumption) | assumption)
        obtain ⟨ad124, e124, hx124_0, hx124_1, hx124_2, hx124_3⟩ := at_T41 HR0.out 0 p124 q124
        (try rw [← Nbq4.out] at hx124_0)
        cases e124
        have qi124 : (0 < l0.length) = True := eq_true (by omega)
        (try rw [show ((0 : Int)).toNat = 0 from rfl] at hx124_0)
        (try rw [show 0 * 4 = 0 from rfl] at hx124_0)
        (try rw [Addr.add_zero'] at hx124_0)
        (try rw [show ((0 : Int)).toNat = 0 from rfl] at hx124_1)
        (try rw [show 0 * 4 = 0 from rfl] at hx124_1)
        (try rw [Addr.add_zero'] at hx124_1)
        (try rw [show ((0 : Int)).toNat = 0 from rfl] at hx124_2)
        (try rw [show 0 * 4 = 0 from rfl] at hx124_2)
        (try rw [Addr.add_zero'] at hx124_2)
        (try rw [show ((0 : Int)).toNat = 0 from rfl] at hx124_3)
        (try rw [show 0 * 4 = 0 from rfl] at hx124_3)
        (try rw [Addr.add_zero'] at hx124_3)
        replace p124 := eq_true p124
        replace q124 := eq_true q124
        have p125 : 0 ≤ (0 : Int) := (by omega)
        have q125 : 0 < (l0.length : Int) := of_decide_eq_true (by first | (with_reducible assumption) | assumption)
        obtain ⟨ad125, e125, hx125_0, hx125_1, hx125_2, hx125_3⟩ := at_T41 HR0.out 0 p125 q125
        (try rw [← Nbq4.out] at hx125_0)
        obtain rfl : ad124 = ad125 := (by injection e125)
        have qi125 : (0 < l0.length) = True := eq_true (by omega)
        (try rw [show ((0 : Int)).toNat = 0 from rfl] at hx125_0)
        (try rw [show 0 * 4 = 0 from rfl] at hx125_0)
        (try rw [Addr.add_zero'] at hx125_0)
        (try rw [show ((0 : Int)).toNat = 0 from rfl] at hx125_1)
        (try rw [show 0 * 4 = 0 from rfl] at hx125_1)
        (try rw [Addr.add_zero'] at hx125_1)
        (try rw [show ((0 : Int)).toNat = 0 from rfl] at hx125_2)
        (try rw [show 0 * 4 = 0 from rfl] at hx125_2)
        (try rw [Addr.add_zero'] at hx125_2)
        (try rw [show ((0 : Int)).toNat = 0 from rfl] at hx125_3)
        (try rw [show 0 * 4 = 0 from rfl] at hx125_3)
        (try rw [Addr.add_zero'] at hx125_3)
        replace p125 := eq_true p125
        replace q125 := eq_true q125
        go_enter Tryd.func12, Tryd.ntmps12
        go_wp2
        go_ret
        exact ⟨by first | rfl | (simp; done) | (simp [*]; done), by repeat (first | exact Drawn0.refl _ | apply Drawn0.step)⟩
      · replace c5 := Bool.eq_false_iff.mpr c5
        subst c5
        have H1 : (some false) = some r := by rw [if_neg (show ¬ (false = true) by decide)] at H; exact H
        clear H
        have H := H1
        clear H1
        obtain rfl := Option.some.inj H
        have p124 : 0 ≤ (0 : Int) := (by omega)
        have q124 : 0 < (l0.length : Int) := of_decide_eq_true (by first | (with_reducible assumption) | assumption)
        obtain ⟨ad124, e124, hx124_0, hx124_1, hx124_2, hx124_3⟩ := at_T41 HR0.out 0 p124 q124
        (try rw [← Nbq4.out] at hx124_0)
        cases e124
        have qi124 : (0 < l0.length) = True := eq_true (by omega)
        (try rw [show ((0 : Int)).toNat = 0 from rfl] at hx124_0)
        (try rw [show 0 * 4 = 0 from rfl] at hx124_0)
        (try rw [Addr.add_zero'] at hx124_0)
        (try rw [show ((0 : Int)).toNat = 0 from rfl] at hx124_1)
        (try rw [show 0 * 4 = 0 from rfl] at hx124_1)
        (try rw [Addr.add_zero'] at hx124_1)
        (try rw [show ((0 : Int)).toNat = 0 from rfl] at hx124_2)
        (try rw [show 0 * 4 = 0 from rfl] at hx124_2)
        (try rw [Addr.add_zero'] at hx124_2)
        (try rw [show ((0 : Int)).toNat = 0 from rfl] at hx124_3)
        (try rw [show 0 * 4 = 0 from rfl] at hx124_3)
        (try rw [Addr.add_zero'] at hx124_3)
        replace p124 := eq_true p124
        replace q124 := eq_true q124
        go_enter Tryd.func12, Tryd.ntmps12
        go_wp2
        go_ret
        exact ⟨by first | rfl | (simp; done) | (simp [*]; done), by repeat (first | exact Drawn0.refl _ | apply Drawn0.step)⟩
    · rw [if_neg c3] at H
      exact absurd H (by simp)
  · rw [if_neg c2] at H
    have c2b0 : ((l0.length : Int) == 1) = false := beq_eq_false_iff_ne.mpr c2
    have c2b1 : ((l0.length : Int) != 1) = true := bne_iff_ne.mpr c2
    obtain rfl := Option.some.inj H
    go_enter Tryd.func12, Tryd.ntmps12
    go_wp2
    go_ret
    exact ⟨by first | rfl | (simp; done) | (simp [*]; done), by repeat (first | exact Drawn0.refl _ | apply Drawn0.step)⟩

end Go.Proofs.YthndpmjmnglhfaaDoor.Core
namespace Go.Proofs.YthndpmjmnglhfaaDoor.Core
open Go.RowKit Go.Proofs.YthndpmjmnglhfaaDoorW.PrintWords Go.Proofs.YthndpmjmnglhfaaDoorW.PrintLast Go.Proofs.YthndpmjmnglhfaaDoorW.PrintMore
attribute [local go_sem] max2_int min2_int max_two min_two max_three min_three max_four min_four   -- for this text's walks alone
set_option linter.unusedVariables false
set_option linter.unusedSimpArgs false

attribute [local go_sem high] eqA41
/-! ### spec_ExprGood: function 6 -/
mutual
def spec_ExprGood.l0 : Nat → List (List (S41)) → Int → Int → List (List (S41)) → Bool → Option (Bool)
  | 0, _, _, _, _, _ => none
  | k + 1, x12, x13, x14, x127000, x127001 => if x14 < x13 then (if 0 ≤ x14 then (if x14 < (x12.length : Int) then ((spec_Good.f k x14 (rd_L5 x12 x14)).bind fun t128 => (if t128 = true then (spec_ExprGood.l0 k x12 x13 (wrap64 (x14 + 1)) x127000 x127001) else (some false))) else (none)) else (none)) else (if x127001 = true then (spec_ExprGood.j1 k false x127000 x127001) else (if 0 < (x127000.length : Int) then (if ((rd_L5 x127000 0).length : Int) = 1 then (if 0 < ((rd_L5 x127000 0).length : Int) then (spec_ExprGood.j1 k (((rd_T41 (rd_L5 x127000 0) 0).f0) || (!(((rd_T41 (rd_L5 x127000 0) 0).f1) == 0) || (!(((rd_T41 (rd_L5 x127000 0) 0).f2) == 0) || (!(((rd_T41 (rd_L5 x127000 0) 0).f3) == 1))))) x127000 x127001) else (none)) else (spec_ExprGood.j1 k true x127000 x127001)) else (none)))
def spec_ExprGood.j1 : Nat → Bool → List (List (S41)) → Bool → Option (Bool)
  | 0, _, _, _ => none
  | k + 1, x44, x127000, x127001 => if x44 = true then (some false) else (if 3 < (x127000.length : Int) then ((spec_Star.f (rd_L5 x127000 3)).bind fun t133 => (if t133 = true then (spec_ExprGood.j2 k false x127000 x127001) else (if 5 < (x127000.length : Int) then ((spec_Star.f (rd_L5 x127000 5)).bind fun t135 => (spec_ExprGood.j2 k (!t135) x127000 x127001)) else (none)))) else (none))
def spec_ExprGood.j2 : Nat → Bool → List (List (S41)) → Bool → Option (Bool)
  | 0, _, _, _ => none
  | k + 1, x58, x127000, x127001 => if x58 = true then (some false) else (if 4 < (x127000.length : Int) then ((spec_Star.f (rd_L5 x127000 4)).bind fun t137 => (if t137 = true then (some true) else (if 3 < (x127000.length : Int) then (spec_ExprGood.l1 k (rd_L5 x127000 3) ((rd_L5 x127000 3).length : Int) 0) else (none)))) else (none))
def spec_ExprGood.l1 : Nat → List (S41) → Int → Int → Option (Bool)
  | 0, _, _, _ => none
  | k + 1, x68, x69, x70 => if x70 < x69 then (if 0 ≤ x70 then (if x70 < (x68.length : Int) then (if ((rd_T41 x68 x70).f0 = true) then (spec_ExprGood.l1 k x68 x69 (wrap64 (x70 + 1))) else (if ((rd_T41 x68 x70).f1) > 28 then (some false) else (spec_ExprGood.l1 k x68 x69 (wrap64 (x70 + 1))))) else (none)) else (none)) else (some true)
end
def spec_ExprGood.f (k : Nat) (l0_0 : List (List (S41))) (a0_1 : Bool) : Option (Bool) := if (l0_0.length : Int) = 6 then (spec_ExprGood.l0 k l0_0 (l0_0.length : Int) 0 l0_0 a0_1) else (some false)
theorem spec_ExprGood.mono_l : ∀ k, (∀ y0 y1 y2 y3 y4, LeO (spec_ExprGood.l0 k y0 y1 y2 y3 y4) (spec_ExprGood.l0 (k + 1) y0 y1 y2 y3 y4)) ∧ (∀ y0 y1 y2, LeO (spec_ExprGood.j1 k y0 y1 y2) (spec_ExprGood.j1 (k + 1) y0 y1 y2)) ∧ (∀ y0 y1 y2, LeO (spec_ExprGood.j2 k y0 y1 y2) (spec_ExprGood.j2 (k + 1) y0 y1 y2)) ∧ (∀ y0 y1 y2, LeO (spec_ExprGood.l1 k y0 y1 y2) (spec_ExprGood.l1 (k + 1) y0 y1 y2))
  | 0 => ⟨fun _ _ _ _ _ r h => by simp [spec_ExprGood.l0] at h, fun _ _ _ r h => by simp [spec_ExprGood.j1] at h, fun _ _ _ r h => by simp [spec_ExprGood.j2] at h, fun _ _ _ r h => by simp [spec_ExprGood.l1] at h⟩
  | k + 1 => by
    obtain ⟨ih0, ih1, ih2, ih3⟩ := spec_ExprGood.mono_l k
    refine ⟨?_, ?_, ?_, ?_⟩
    · intro y0 y1 y2 y3 y4
      unfold spec_ExprGood.l0
      repeat' first
      | (with_reducible exact ih0 _ _ _ _ _)
      | (with_reducible exact ih1 _ _ _)
      | (with_reducible exact ih2 _ _ _)
      | (with_reducible exact ih3 _ _ _)
      | (with_reducible exact spec_Good.mono _ _ _)
      | (with_reducible exact LeO.refl _)
      | (with_reducible exact LeO.none _)
      | (with_reducible refine LeO.ite ?_ ?_)
      | (with_reducible refine LeO.bind ?_ (fun _ => ?_))
      | exact ih0 _ _ _ _ _
      | exact ih1 _ _ _
      | exact ih2 _ _ _
      | exact ih3 _ _ _
      | exact spec_Good.mono _ _ _
      | exact LeO.none _
      | refine LeO.ite ?_ ?_
      | refine LeO.bind ?_ (fun _ => ?_)
    · intro y0 y1 y2
      unfold spec_ExprGood.j1
      repeat' first
      | (with_reducible exact ih0 _ _ _ _ _)
      | (with_reducible exact ih1 _ _ _)
      | (with_reducible exact ih2 _ _ _)
      | (with_reducible exact ih3 _ _ _)
      | (with_reducible exact spec_Good.mono _ _ _)
      | (with_reducible exact LeO.refl _)
      | (with_reducible exact LeO.none _)
      | (with_reducible refine LeO.ite ?_ ?_)
      | (with_reducible refine LeO.bind ?_ (fun _ => ?_))
      | exact ih0 _ _ _ _ _
      | exact ih1 _ _ _
      | exact ih2 _ _ _
      | exact ih3 _ _ _
      | exact spec_Good.mono _ _ _
      | exact LeO.none _
      | refine LeO.ite ?_ ?_
      | refine LeO.bind ?_ (fun _ => ?_)
    · intro y0 y1 y2
      unfold spec_ExprGood.j2
      repeat' first
      | (with_reducible exact ih0 _ _ _ _ _)
      | (with_reducible exact ih1 _ _ _)
      | (with_reducible exact ih2 _ _ _)
      | (with_reducible exact ih3 _ _ _)
      | (with_reducible exact spec_Good.mono _ _ _)
      | (with_reducible exact LeO.refl _)
      | (with_reducible exact LeO.none _)
      | (with_reducible refine LeO.ite ?_ ?_)
      | (with_reducible refine LeO.bind ?_ (fun _ => ?_))
      | exact ih0 _ _ _ _ _
      | exact ih1 _ _ _
      | exact ih2 _ _ _
      | exact ih3 _ _ _
      | exact spec_Good.mono _ _ _
      | exact LeO.none _
      | refine LeO.ite ?_ ?_
      | refine LeO.bind ?_ (fun _ => ?_)
    · intro y0 y1 y2
      unfold spec_ExprGood.l1
      repeat' first
      | (with_reducible exact ih0 _ _ _ _ _)
      | (with_reducible exact ih1 _ _ _)
      | (with_reducible exact ih2 _ _ _)
      | (with_reducible exact ih3 _ _ _)
      | (with_reducible exact spec_Good.mono _ _ _)
      | (with_reducible exact LeO.refl _)
      | (with_reducible exact LeO.none _)
      | (with_reducible refine LeO.ite ?_ ?_)
      | (with_reducible refine LeO.bind ?_ (fun _ => ?_))
      | exact ih0 _ _ _ _ _
      | exact ih1 _ _ _
      | exact ih2 _ _ _
      | exact ih3 _ _ _
      | exact spec_Good.mono _ _ _
      | exact LeO.none _
      | refine LeO.ite ?_ ?_
      | refine LeO.bind ?_ (fun _ => ?_)
theorem spec_ExprGood.mono : ∀ a0 a1 k, LeO (spec_ExprGood.f k a0 a1) (spec_ExprGood.f (k + 1) a0 a1) := by
  intro a0 a1 k
  obtain ⟨ih0, ih1, ih2, ih3⟩ := spec_ExprGood.mono_l k
  unfold spec_ExprGood.f
  repeat' first
      | (with_reducible exact ih0 _ _ _ _ _)
      | (with_reducible exact ih1 _ _ _)
      | (with_reducible exact ih2 _ _ _)
      | (with_reducible exact ih3 _ _ _)
      | (with_reducible exact spec_Good.mono _ _ _)
      | (with_reducible exact LeO.refl _)
      | (with_reducible exact LeO.none _)
      | (with_reducible refine LeO.ite ?_ ?_)
      | (with_reducible refine LeO.bind ?_ (fun _ => ?_))
      | exact ih0 _ _ _ _ _
      | exact ih1 _ _ _
      | exact ih2 _ _ _
      | exact ih3 _ _ _
      | exact spec_Good.mono _ _ _
      | exact LeO.none _
      | refine LeO.ite ?_ ?_
      | refine LeO.bind ?_ (fun _ => ?_)
set_option maxHeartbeats 8000000 in
set_option maxRecDepth 100000 in
theorem spec_ExprGood.calls (k : Nat) (A0_0 : Option Addr) (c0_0 : Nat) (l0_0 : List (List (S41))) (a0_1 : Bool) (r : Bool) (w : World) (hr0_0 : Kd.C (Kd.slice 41 k41) w A0_0 l0_0.length l0_0) (hc0_0 : l0_0.length ≤ c0_0) (h : spec_ExprGood.f k l0_0 a0_1 = some r) :
    Calls Tryd.prog 6 #[.agg #[.slice A0_0 l0_0.length c0_0, .bool a0_1]] w fun e w' => e = .returned (.bool r) ∧ Below w.heap.size w w' := by
  have hu28 := Tryd.underlying28
  have hu41 := Tryd.underlying41
  have HR0_0 := Aside0.mk hr0_0
  have HC0_0 := Aside0.mk hc0_0
  clear hr0_0 hc0_0
  have HB := Aside0.mk (Below.refl w.heap.size w)
  have H : (if (l0_0.length : Int) = 6 then (spec_ExprGood.l0 k l0_0 (l0_0.length : Int) 0 l0_0 a0_1) else (some false)) = some r := h
  clear h
  by_cases c2 : (l0_0.length : Int) = 6
  · rw [if_pos c2] at H
    have c2b0 : ((l0_0.length : Int) == 6) = true := beq_iff_eq.mpr c2
    have c2b1 : ((l0_0.length : Int) != 6) = false := bne_eq_false_iff_eq.mpr c2
    clear c2
    have H' := Aside0.mk H
    clear H
    go_enter Tryd.func6, Tryd.ntmps6
    go_wp2_with (first | ((with_reducible refine gate_dst (N := 1) rfl ?_); (try (refine gate_guard (by rfl) ?_; dsimp only)); refine box_event ?hg (N := 1) ?hd (cs := #[.slice A0_0 l0_0.length c0_0, .bool a0_1]) (t := 28) ?hr ?_; (case hd => rfl); (case hg => rfl); (case hr => first | (go_simp; done) | (go_simp; rfl)); intro gb126 hg w3 hbox hb; have n0_ := Aside0.mk (below_step (by repeat (first | (with_reducible first | exact HB.out | apply below_alloc | apply pw_below_drewN | apply below_drew1) | exact HB.out)) hb); have n1_ := Aside0.mk (hbox); have n2_ := Aside0.mk ((by rw [hg]; exact (below_size (by repeat (first | (with_reducible first | exact HB.out | apply below_alloc | apply pw_below_drewN | apply below_drew1) | exact HB.out))) : w.heap.size ≤ gb126)); have n3_ := Aside0.mk ((by rw [hg]; exact (below_size (by repeat (first | (with_reducible first | exact HB.out | apply below_alloc | apply pw_below_drewN | apply below_drew1) | exact HB.out))) : w.heap.size ≤ gb126)); clear HB; have HB := n0_; have BK126 := n1_; have GW126 := n2_; have GE126 := n3_; clear n0_ n1_ n2_ n3_; clear hb hbox hg; have hcz4_0 : w3.cell? ⟨gb126, 0, none⟩ = some (.slice A0_0 l0_0.length c0_0) := (blk_cell BK126.out 0).trans rfl; have hcz4_1 : w3.cell? ⟨gb126, 1, none⟩ = some (.bool a0_1) := (blk_cell BK126.out 1).trans rfl; have hfz4_0 := blk_frozen BK126.out 0; have hfz4_1 := blk_frozen BK126.out 1))
    go_loopg [14] k (fun kq v14 w' => ∃ (x14_1 : Int), v14 = .int .i64 x14_1 ∧ Aside0 (spec_ExprGood.l0 kq l0_0 (l0_0.length : Int) x14_1 l0_0 a0_1 = some r) ∧ Aside0 (kq ≤ k) ∧ Aside0 (w'.heap[gb126]? = some (.cells #[(.slice A0_0 l0_0.length c0_0), .bool a0_1] 28 (0, 0))) ∧ Aside0 (Below w.heap.size w w'))
    case atStart => exact ⟨(0), (by first | rfl | (simp; done) | (simp [*]; done)), H', ⟨Nat.le_refl _⟩, ⟨by (with_reducible repeat (first | refine blk_drewN ?_ _ | refine blk_drew ?_ | refine blk_alloc ?_ _)); exact BK126.out⟩, ⟨by repeat (first | (with_reducible first | exact HB.out | apply below_alloc | apply pw_below_drewN | apply below_drew1 | refine below_set ?_ GE126.out) | exact HB.out)⟩⟩
    case round =>
      clear H'
      try clear c2
      try clear c2b0
      try clear c2b1
      try clear p2
      try clear hcz4_0
      try clear hcz4_1
      try clear hfz4_0
      try clear hfz4_1
      obtain ⟨x14_1, rfl, HA, HK1, BK126, HB⟩ := hrel
      cases gk with
      | zero => exact absurd HA.out (by simp [spec_ExprGood.l0])
      | succ k1 =>
        have H := HA.out
        clear HA
        simp only [spec_ExprGood.l0] at H
        by_cases c5 : x14_1 < (l0_0.length : Int)
        · rw [if_pos c5] at H
          have c5b0 : decide (x14_1 < (l0_0.length : Int)) = true := decide_eq_true c5
          clear c5
          by_cases c6 : 0 ≤ x14_1
          · rw [if_pos c6] at H
            have c6b0 : decide (0 ≤ x14_1) = true := decide_eq_true c6
            clear c6
            by_cases c7 : x14_1 < (l0_0.length : Int)
            · rw [if_pos c7] at H
              have c7b0 : decide (x14_1 < (l0_0.length : Int)) = true := decide_eq_true c7
              clear c7
              replace H := Option.bind_eq_some_iff.mp H
              obtain ⟨t128, A80, H⟩ := H
              replace H : (if t128 = true then (spec_ExprGood.l0 k1 l0_0 (l0_0.length : Int) (wrap64 (x14_1 + 1)) l0_0 a0_1) else (some false)) = some r := H
              have A8 := Aside0.mk A80
              clear A80
              by_cases c9 : t128 = true
              · subst c9
                have H1 : (spec_ExprGood.l0 k1 l0_0 (l0_0.length : Int) (wrap64 (x14_1 + 1)) l0_0 a0_1) = some r := by rw [if_pos rfl] at H; exact H
                clear H
                have H := H1
                clear H1
                have H' := Aside0.mk H
                clear H
                have p127 : 0 ≤ (x14_1 : Int) := of_decide_eq_true (by first | (with_reducible assumption) | assumption)
                have q127 : x14_1 < (l0_0.length : Int) := of_decide_eq_true (by first | (with_reducible assumption) | assumption)
                obtain ⟨ad127, A127_0, c127_0, e127, hx127_0, hl127_0, hi127_0⟩ := at_L5 HR0_0.out x14_1 p127 q127
                cases e127
                replace hx127_0 := (HB.out.cell (World.block_lt_of_cell? w _ hx127_0)).trans hx127_0
                have HR127_0 := Aside0.mk hi127_0
                have HC127_0 := Aside0.mk hl127_0
                clear hi127_0 hl127_0
                replace p127 := eq_true p127
                replace q127 := eq_true q127
                go_wp2_with (first | ((with_reducible refine gate_callee (f := 11) rfl ?_); refine goesL_ (some 21) rfl rfl Tryd.func11 (by kernel_rfl) rfl #[.int .i64 x14_1, .slice A127_0 (rd_L5 l0_0 x14_1).length c127_0] rfl (by (try simp only [List.map_toArray, List.map_cons, List.map_nil]); first | done | rfl | (simp only [List.length_drop, List.length_take]; rfl)) ?_; (with_reducible refine (spec_Good.calls k1 x14_1 _ _ (rd_L5 l0_0 x14_1) true _ ?side1 ?side2 A8.out).mono ?_); (case side1 => repeat (first | exact (Kd.C_below HR127_0.out HB.out) | (with_reducible refine Kd.C_alloc ?_ _) | (with_reducible refine Kd.C_drewN ?_ _) | (with_reducible refine Kd.C_drew ?_))); (case side2 => exact HC127_0.out); rintro e w10 ⟨rfl, hb⟩; refine ⟨_, rfl, ?_⟩; have n0_ := Aside0.mk (blk_below (g := gb126) (o := .cells #[.slice (some ad127) l0_0.length c0_0, .bool a0_1] 28 (0, 0)) (by (with_reducible repeat (first | refine blk_drewN ?_ _ | refine blk_drew ?_ | refine blk_alloc ?_ _)); exact BK126.out) hb); have n1_ := Aside0.mk (below_step (by repeat (first | (with_reducible first | exact HB.out | apply below_alloc | apply pw_below_drewN | apply below_drew1 | refine below_set ?_ GE126.out) | exact HB.out)) hb); clear BK126; clear HB; have BK126 := n0_; have HB := n1_; clear n0_ n1_; (try clear hb); (try clear hb2); (try clear hk); (try clear hi)))
                go_roundg k1
                case measure => have := HK1.out; omega
                case rel => exact ⟨(wrap64 (x14_1 + 1)), (by first | rfl | (simp; done) | (simp [*]; done)), H', ⟨by have := HK1.out; omega⟩, ⟨by (with_reducible repeat (first | refine blk_drewN ?_ _ | refine blk_drew ?_ | refine blk_alloc ?_ _)); exact BK126.out⟩, ⟨by repeat (first | (with_reducible first | exact HB.out | apply below_alloc | apply pw_below_drewN | apply below_drew1 | refine below_set ?_ GE126.out) | exact HB.out)⟩⟩
              · replace c9 := Bool.eq_false_iff.mpr c9
                subst c9
                have H1 : (some false) = some r := by rw [if_neg (show ¬ (false = true) by decide)] at H; exact H
                clear H
                have H := H1
                clear H1
                obtain rfl := Option.some.inj H
                have p127 : 0 ≤ (x14_1 : Int) := of_decide_eq_true (by first | (with_reducible assumption) | assumption)
                have q127 : x14_1 < (l0_0.length : Int) := of_decide_eq_true (by first | (with_reducible assumption) | assumption)
                obtain ⟨ad127, A127_0, c127_0, e127, hx127_0, hl127_0, hi127_0⟩ := at_L5 HR0_0.out x14_1 p127 q127
                cases e127
                replace hx127_0 := (HB.out.cell (World.block_lt_of_cell? w _ hx127_0)).trans hx127_0
                have HR127_0 := Aside0.mk hi127_0
                have HC127_0 := Aside0.mk hl127_0
                clear hi127_0 hl127_0
                replace p127 := eq_true p127
                replace q127 := eq_true q127
                go_wp2_with (first | ((with_reducible refine gate_callee (f := 11) rfl ?_); refine goesL_ (some 21) rfl rfl Tryd.func11 (by kernel_rfl) rfl #[.int .i64 x14_1, .slice A127_0 (rd_L5 l0_0 x14_1).length c127_0] rfl (by (try simp only [List.map_toArray, List.map_cons, List.map_nil]); first | done | rfl | (simp only [List.length_drop, List.length_take]; rfl)) ?_; (with_reducible refine (spec_Good.calls k1 x14_1 _ _ (rd_L5 l0_0 x14_1) false _ ?side1 ?side2 A8.out).mono ?_); (case side1 => repeat (first | exact (Kd.C_below HR127_0.out HB.out) | (with_reducible refine Kd.C_alloc ?_ _) | (with_reducible refine Kd.C_drewN ?_ _) | (with_reducible refine Kd.C_drew ?_))); (case side2 => exact HC127_0.out); rintro e w11 ⟨rfl, hb⟩; refine ⟨_, rfl, ?_⟩; have n0_ := Aside0.mk (blk_below (g := gb126) (o := .cells #[.slice (some ad127) l0_0.length c0_0, .bool a0_1] 28 (0, 0)) (by (with_reducible repeat (first | refine blk_drewN ?_ _ | refine blk_drew ?_ | refine blk_alloc ?_ _)); exact BK126.out) hb); have n1_ := Aside0.mk (below_step (by repeat (first | (with_reducible first | exact HB.out | apply below_alloc | apply pw_below_drewN | apply below_drew1 | refine below_set ?_ GE126.out) | exact HB.out)) hb); clear BK126; clear HB; have BK126 := n0_; have HB := n1_; clear n0_ n1_; (try clear hb); (try clear hb2); (try clear hk); (try clear hi)))
                go_ret
                exact ⟨by first | rfl | (simp [errW_none, errW_some] <;> rfl) | (simp [*, errW_none, errW_some] <;> rfl), by repeat (first | (with_reducible first | exact HB.out | apply below_alloc | apply pw_below_drewN | apply below_drew1 | refine below_set ?_ GE126.out) | exact HB.out)⟩
            · rw [if_neg c7] at H
              exact absurd H (by simp)
          · rw [if_neg c6] at H
            exact absurd H (by simp)
        · rw [if_neg c5] at H
          have c5b0 : decide (x14_1 < (l0_0.length : Int)) = false := decide_eq_false c5
          clear c5
          have HC12 := Aside0.mk H
          clear H
          go_upto_region 9 with (fail)
          go_cut [44] (fun v44 wc => ∃ (kq : Nat) (x44_11 : Bool), v44 = .bool x44_11 ∧ Aside0 (spec_ExprGood.j1 kq x44_11 l0_0 a0_1 = some r) ∧ Aside0 (kq ≤ k1) ∧ Aside0 (wc.heap[gb126]? = some (.cells #[(.slice A0_0 l0_0.length c0_0), .bool a0_1] 28 (0, 0))) ∧ Aside0 (Below w.heap.size w wc))
          case first =>
            have H := HC12.out
            clear HC12
            by_cases c13 : a0_1 = true
            · subst c13
              have H1 : (spec_ExprGood.j1 k1 false l0_0 true) = some r := by rw [if_pos rfl] at H; exact H
              clear H
              have H := H1
              clear H1
              have H' := Aside0.mk H
              clear H
              have hcz14_0 : wr.cell? ⟨gb126, 0, none⟩ = some (.slice A0_0 l0_0.length c0_0) := (blk_cell BK126.out 0).trans rfl
              have hcz14_1 : wr.cell? ⟨gb126, 1, none⟩ = some (.bool true) := (blk_cell BK126.out 1).trans rfl
              have hfz14_0 := blk_frozen BK126.out 0
              have hfz14_1 := blk_frozen BK126.out 1
              go_wp2
              go_meet
              case rel => exact ⟨_, (false), (by first | rfl | (simp; done) | (simp [*]; done)), H', ⟨by have := HK1.out; first | omega | exact Nat.le_refl _⟩, ⟨by (with_reducible repeat (first | refine blk_drewN ?_ _ | refine blk_drew ?_ | refine blk_alloc ?_ _)); exact BK126.out⟩, ⟨by repeat (first | (with_reducible first | exact HB.out | apply below_alloc | apply pw_below_drewN | apply below_drew1 | refine below_set ?_ GE126.out) | exact HB.out)⟩⟩
            · replace c13 := Bool.eq_false_iff.mpr c13
              subst c13
              have H1 : (if 0 < (l0_0.length : Int) then (if ((rd_L5 l0_0 0).length : Int) = 1 then (if 0 < ((rd_L5 l0_0 0).length : Int) then (spec_ExprGood.j1 k1 (((rd_T41 (rd_L5 l0_0 0) 0).f0) || (!(((rd_T41 (rd_L5 l0_0 0) 0).f1) == 0) || (!(((rd_T41 (rd_L5 l0_0 0) 0).f2) == 0) || (!(((rd_T41 (rd_L5 l0_0 0) 0).f3) == 1))))) l0_0 false) else (none)) else (spec_ExprGood.j1 k1 true l0_0 false)) else (none)) = some r := by rw [if_neg (show ¬ (false = true) by decide)] at H; exact H
              clear H
              have H := H1
              clear H1
              by_cases c15 : 0 < (l0_0.length : Int)
              · rw [if_pos c15] at H
                have c15b0 : decide (0 < (l0_0.length : Int)) = true := decide_eq_true c15
                have c15b1 : decide (0 < l0_0.length) = true := decide_eq_true (by omega)
                clear c15
                (first | rw [c15b0] | (simp only [i64_w, i32_w]; rw [c15b0]) | skip)
                by_cases c16 : ((rd_L5 l0_0 0).length : Int) = 1
                · rw [if_pos c16] at H
                  have c16b0 : (((rd_L5 l0_0 0).length : Int) == 1) = true := beq_iff_eq.mpr c16
                  have c16b1 : (((rd_L5 l0_0 0).length : Int) != 1) = false := bne_eq_false_iff_eq.mpr c16
                  clear c16
                  by_cases c17 : 0 < ((rd_L5 l0_0 0).length : Int)
                  · rw [if_pos c17] at H
                    have c17b0 : decide (0 < ((rd_L5 l0_0 0).length : Int)) = true := decide_eq_true c17
                    have c17b1 : decide (0 < (rd_L5 l0_0 0).length) = true := decide_eq_true (by omega)
                    clear c17
                    have H' := Aside0.mk H
                    clear H
                    have hcz18_0 : wr.cell? ⟨gb126, 0, none⟩ = some (.slice A0_0 l0_0.length c0_0) := (blk_cell BK126.out 0).trans rfl
                    have hcz18_1 : wr.cell? ⟨gb126, 1, none⟩ = some (.bool false) := (blk_cell BK126.out 1).trans rfl
                    have hfz18_0 := blk_frozen BK126.out 0
                    have hfz18_1 := blk_frozen BK126.out 1
                    have p129 : 0 ≤ (0 : Int) := (by omega)
                    have q129 : 0 < (l0_0.length : Int) := of_decide_eq_true (by first | (with_reducible assumption) | assumption)
                    obtain ⟨ad129, A129_0, c129_0, e129, hx129_0, hl129_0, hi129_0⟩ := at_L5 HR0_0.out 0 p129 q129
                    cases e129
                    have qi129 : (0 < l0_0.length) = True := eq_true (by omega)
                    (try rw [show ((0 : Int)).toNat = 0 from rfl] at hx129_0)
                    (try rw [Addr.add_zero'] at hx129_0)
                    replace hx129_0 := (HB.out.cell (World.block_lt_of_cell? w _ hx129_0)).trans hx129_0
                    have HR129_0 := Aside0.mk hi129_0
                    have HC129_0 := Aside0.mk hl129_0
                    clear hi129_0 hl129_0
                    replace p129 := eq_true p129
                    replace q129 := eq_true q129
                    have p130 : 0 ≤ (0 : Int) := (by omega)
                    have q130 : 0 < (l0_0.length : Int) := of_decide_eq_true (by first | (with_reducible assumption) | assumption)
                    obtain ⟨ad130, A130_0, c130_0, e130, hx130_0, hl130_0, hi130_0⟩ := at_L5 HR0_0.out 0 p130 q130
                    obtain rfl : ad129 = ad130 := (by injection e130)
                    have qi130 : (0 < l0_0.length) = True := eq_true (by omega)
                    (try rw [show ((0 : Int)).toNat = 0 from rfl] at hx130_0)
                    (try rw [Addr.add_zero'] at hx130_0)
                    replace hx130_0 := (HB.out.cell (World.block_lt_of_cell? w _ hx130_0)).trans hx130_0
                    have HR130_0 := Aside0.mk hi130_0
                    have HC130_0 := Aside0.mk hl130_0
                    clear hi130_0 hl130_0
                    replace p130 := eq_true p130
                    replace q130 := eq_true q130
                    have ea_ := Option.some.inj (hx129_0.symm.trans hx130_0)
                    injection ea_ with ea_ en_ ec_
                    subst ea_
                    subst ec_
                    clear en_
                    have p131 : 0 ≤ (0 : Int) := (by omega)
                    have q131 : 0 < ((rd_L5 l0_0 0).length : Int) := of_decide_eq_true (by first | (with_reducible assumption) | assumption)
                    obtain ⟨ad131, e131, hx131_0, hx131_1, hx131_2, hx131_3⟩ := at_T41 HR130_0.out 0 p131 q131
                    cases e131
                    have qi131 : (0 < (rd_L5 l0_0 0).length) = True := eq_true (by omega)
                    (try rw [show ((0 : Int)).toNat = 0 from rfl] at hx131_0)
                    (try rw [show 0 * 4 = 0 from rfl] at hx131_0)
                    (try rw [Addr.add_zero'] at hx131_0)
                    (try rw [show ((0 : Int)).toNat = 0 from rfl] at hx131_1)
                    (try rw [show 0 * 4 = 0 from rfl] at hx131_1)
                    (try rw [Addr.add_zero'] at hx131_1)
                    (try rw [show ((0 : Int)).toNat = 0 from rfl] at hx131_2)
                    (try rw [show 0 * 4 = 0 from rfl] at hx131_2)
                    (try rw [Addr.add_zero'] at hx131_2)
                    (try rw [show ((0 : Int)).toNat = 0 from rfl] at hx131_3)
                    (try rw [show 0 * 4 = 0 from rfl] at hx131_3)
                    (try rw [Addr.add_zero'] at hx131_3)
                    replace hx131_0 := (HB.out.cell (World.block_lt_of_cell? w _ hx131_0)).trans hx131_0
                    replace hx131_1 := (HB.out.cell (World.block_lt_of_cell? w _ hx131_1)).trans hx131_1
                    replace hx131_2 := (HB.out.cell (World.block_lt_of_cell? w _ hx131_2)).trans hx131_2
                    replace hx131_3 := (HB.out.cell (World.block_lt_of_cell? w _ hx131_3)).trans hx131_3
                    replace p131 := eq_true p131
                    replace q131 := eq_true q131
                    go_wp2
                    go_meet
                    case rel => exact ⟨_, ((((rd_T41 (rd_L5 l0_0 0) 0).f0) || (!(((rd_T41 (rd_L5 l0_0 0) 0).f1) == 0) || (!(((rd_T41 (rd_L5 l0_0 0) 0).f2) == 0) || (!(((rd_T41 (rd_L5 l0_0 0) 0).f3) == 1)))))), (by first | rfl | (simp; done) | (simp [*]; done)), H', ⟨by have := HK1.out; first | omega | exact Nat.le_refl _⟩, ⟨by (with_reducible repeat (first | refine blk_drewN ?_ _ | refine blk_drew ?_ | refine blk_alloc ?_ _)); exact BK126.out⟩, ⟨by repeat (first | (with_reducible first | exact HB.out | apply below_alloc | apply pw_below_drewN | apply below_drew1 | refine below_set ?_ GE126.out) | exact HB.out)⟩⟩
                  · rw [if_neg c17] at H
                    exact absurd H (by simp)
                · rw [if_neg c16] at H
                  have c16b0 : (((rd_L5 l0_0 0).length : Int) == 1) = false := beq_eq_false_iff_ne.mpr c16
                  have c16b1 : (((rd_L5 l0_0 0).length : Int) != 1) = true := bne_iff_ne.mpr c16
                  have H' := Aside0.mk H
                  clear H
                  have hcz19_0 : wr.cell? ⟨gb126, 0, none⟩ = some (.slice A0_0 l0_0.length c0_0) := (blk_cell BK126.out 0).trans rfl
                  have hcz19_1 : wr.cell? ⟨gb126, 1, none⟩ = some (.bool false) := (blk_cell BK126.out 1).trans rfl
                  have hfz19_0 := blk_frozen BK126.out 0
                  have hfz19_1 := blk_frozen BK126.out 1
                  have p129 : 0 ≤ (0 : Int) := (by omega)
                  have q129 : 0 < (l0_0.length : Int) := of_decide_eq_true (by first | (with_reducible assumption) | assumption)
                  obtain ⟨ad129, A129_0, c129_0, e129, hx129_0, hl129_0, hi129_0⟩ := at_L5 HR0_0.out 0 p129 q129
                  cases e129
                  have qi129 : (0 < l0_0.length) = True := eq_true (by omega)
                  (try rw [show ((0 : Int)).toNat = 0 from rfl] at hx129_0)
                  (try rw [Addr.add_zero'] at hx129_0)
                  replace hx129_0 := (HB.out.cell (World.block_lt_of_cell? w _ hx129_0)).trans hx129_0
                  have HR129_0 := Aside0.mk hi129_0
                  have HC129_0 := Aside0.mk hl129_0
                  clear hi129_0 hl129_0
                  replace p129 := eq_true p129
                  replace q129 := eq_true q129
                  go_wp2
                  go_meet
                  case rel => exact ⟨_, (true), (by first | rfl | (simp; done) | (simp [*]; done)), H', ⟨by have := HK1.out; first | omega | exact Nat.le_refl _⟩, ⟨by (with_reducible repeat (first | refine blk_drewN ?_ _ | refine blk_drew ?_ | refine blk_alloc ?_ _)); exact BK126.out⟩, ⟨by repeat (first | (with_reducible first | exact HB.out | apply below_alloc | apply pw_below_drewN | apply below_drew1 | refine below_set ?_ GE126.out) | exact HB.out)⟩⟩
              · rw [if_neg c15] at H
                exact absurd H (by simp)
          case rest =>
            clear HC12
            try clear c1
            try clear p1
            try clear q1
            try clear hx1
            try clear qi1
            try clear c2
            try clear c2b0
            try clear c2b1
            try clear p2
            try clear c5
            try clear c5b0
            try clear c6
            try clear c6b0
            try clear p6
            try clear c7
            try clear c7b0
            try clear c9
            try clear c11
            try clear c12
            try clear p12
            try clear q12
            try clear hx12
            try clear qi12
            try clear c13
            try clear p13
            try clear q13
            try clear hx13
            try clear qi13
            try clear c15
            try clear c15b0
            try clear c15b1
            try clear c16
            try clear c16b0
            try clear c16b1
            try clear c17
            try clear c17b0
            try clear c17b1
            try clear hcz14_0
            try clear hcz14_1
            try clear hcz18_0
            try clear hcz18_1
            try clear hcz19_0
            try clear hcz19_1
            try clear hcz4_0
            try clear hcz4_1
            try clear hfz14_0
            try clear hfz14_1
            try clear hfz18_0
            try clear hfz18_1
            try clear hfz19_0
            try clear hfz19_1
            try clear hfz4_0
            try clear hfz4_1
            try clear hx127_0
            try clear hx129_0
            try clear hx130_0
            try clear hx131_0
            try clear hx131_1
            try clear hx131_2
            try clear hx131_3
            try clear p127
            try clear p129
            try clear p130
            try clear p131
            try clear p2
            try clear q127
            try clear q129
            try clear q130
            try clear q131
            obtain ⟨kq, x44_11, rfl, HA, HJ11, BK126, HB⟩ := hcut
            cases kq with
            | zero => exact absurd HA.out (by simp [spec_ExprGood.j1])
            | succ kj11 =>
              have H := HA.out
              clear HA
              simp only [spec_ExprGood.j1] at H
              by_cases c20 : x44_11 = true
              · subst c20
                have H1 : (some false) = some r := by rw [if_pos rfl] at H; exact H
                clear H
                have H := H1
                clear H1
                obtain rfl := Option.some.inj H
                go_wp2
                go_ret
                exact ⟨by first | rfl | (simp [errW_none, errW_some] <;> rfl) | (simp [*, errW_none, errW_some] <;> rfl), by repeat (first | (with_reducible first | exact HB.out | apply below_alloc | apply pw_below_drewN | apply below_drew1 | refine below_set ?_ GE126.out) | exact HB.out)⟩
              · replace c20 := Bool.eq_false_iff.mpr c20
                subst c20
                have H1 : (if 3 < (l0_0.length : Int) then ((spec_Star.f (rd_L5 l0_0 3)).bind fun t133 => (if t133 = true then (spec_ExprGood.j2 kj11 false l0_0 a0_1) else (if 5 < (l0_0.length : Int) then ((spec_Star.f (rd_L5 l0_0 5)).bind fun t135 => (spec_ExprGood.j2 kj11 (!t135) l0_0 a0_1)) else (none)))) else (none)) = some r := by rw [if_neg (show ¬ (false = true) by decide)] at H; exact H
                clear H
                have H := H1
                clear H1
                have HC21 := Aside0.mk H
                clear H
                go_upto_region 11 with (fail)
                go_cut [58] (fun v58 wc => ∃ (kq : Nat) (x58_20 : Bool), v58 = .bool x58_20 ∧ Aside0 (spec_ExprGood.j2 kq x58_20 l0_0 a0_1 = some r) ∧ Aside0 (kq ≤ kj11) ∧ Aside0 (wc.heap[gb126]? = some (.cells #[(.slice A0_0 l0_0.length c0_0), .bool a0_1] 28 (0, 0))) ∧ Aside0 (Below w.heap.size w wc))
                case first =>
                  have H := HC21.out
                  clear HC21
                  by_cases c22 : 3 < (l0_0.length : Int)
                  · rw [if_pos c22] at H
                    have c22b0 : decide (3 < (l0_0.length : Int)) = true := decide_eq_true c22
                    have c22b1 : decide (3 < l0_0.length) = true := decide_eq_true (by omega)
                    clear c22
                    (first | rw [c22b0] | (simp only [i64_w, i32_w]; rw [c22b0]) | skip)
                    replace H := Option.bind_eq_some_iff.mp H
                    obtain ⟨t133, A230, H⟩ := H
                    replace H : (if t133 = true then (spec_ExprGood.j2 kj11 false l0_0 a0_1) else (if 5 < (l0_0.length : Int) then ((spec_Star.f (rd_L5 l0_0 5)).bind fun t135 => (spec_ExprGood.j2 kj11 (!t135) l0_0 a0_1)) else (none))) = some r := H
                    have A23 := Aside0.mk A230
                    clear A230
                    by_cases c24 : t133 = true
                    · subst c24
                      have H1 : (spec_ExprGood.j2 kj11 false l0_0 a0_1) = some r := by rw [if_pos rfl] at H; exact H
                      clear H
                      have H := H1
                      clear H1
                      have H' := Aside0.mk H
                      clear H
                      have hcz25_0 : wc.cell? ⟨gb126, 0, none⟩ = some (.slice A0_0 l0_0.length c0_0) := (blk_cell BK126.out 0).trans rfl
                      have hcz25_1 : wc.cell? ⟨gb126, 1, none⟩ = some (.bool a0_1) := (blk_cell BK126.out 1).trans rfl
                      have hfz25_0 := blk_frozen BK126.out 0
                      have hfz25_1 := blk_frozen BK126.out 1
                      have p132 : 0 ≤ (3 : Int) := (by omega)
                      have q132 : 3 < (l0_0.length : Int) := of_decide_eq_true (by first | (with_reducible assumption) | assumption)
                      obtain ⟨ad132, A132_0, c132_0, e132, hx132_0, hl132_0, hi132_0⟩ := at_L5 HR0_0.out 3 p132 q132
                      cases e132
                      (try simp only [show (3 : Int).toNat = 3 from rfl, Nat.reduceMul, Nat.reduceEqDiff, Go.Addr.add, ↓reduceIte] at hx132_0)
                      have qi132 : (3 < l0_0.length) = True := eq_true (by omega)
                      (try rw [show ((3 : Int)).toNat = 3 from rfl] at hx132_0)
                      replace hx132_0 := (HB.out.cell (World.block_lt_of_cell? w _ hx132_0)).trans hx132_0
                      have HR132_0 := Aside0.mk hi132_0
                      have HC132_0 := Aside0.mk hl132_0
                      clear hi132_0 hl132_0
                      replace p132 := eq_true p132
                      replace q132 := eq_true q132
                      go_wp2_with (first | ((with_reducible refine gate_callee (f := 12) rfl ?_); refine goesL_ (some 49) rfl rfl Tryd.func12 (by kernel_rfl) rfl #[.slice A132_0 (rd_L5 l0_0 3).length c132_0] rfl (by (try simp only [List.map_toArray, List.map_cons, List.map_nil]); first | done | rfl | (simp only [List.length_drop, List.length_take]; rfl)) ?_; (with_reducible refine (spec_Star.calls _ _ (rd_L5 l0_0 3) true _ ?side1 ?side2 A23.out).mono ?_); (case side1 => repeat (first | exact (Kd.C_below HR132_0.out HB.out) | (with_reducible refine Kd.C_alloc ?_ _) | (with_reducible refine Kd.C_drewN ?_ _) | (with_reducible refine Kd.C_drew ?_))); (case side2 => exact HC132_0.out); rintro e w' ⟨rfl, ⟨nd, rfl⟩⟩; refine ⟨_, rfl, ?_⟩))
                      go_meet
                      case rel => exact ⟨_, (false), (by first | rfl | (simp; done) | (simp [*]; done)), H', ⟨by have := HK1.out; have := HJ11.out; first | omega | exact Nat.le_refl _⟩, ⟨by (with_reducible repeat (first | refine blk_drewN ?_ _ | refine blk_drew ?_ | refine blk_alloc ?_ _)); exact BK126.out⟩, ⟨by repeat (first | (with_reducible first | exact HB.out | apply below_alloc | apply pw_below_drewN | apply below_drew1 | refine below_set ?_ GE126.out) | exact HB.out)⟩⟩
                    · replace c24 := Bool.eq_false_iff.mpr c24
                      subst c24
                      have H1 : (if 5 < (l0_0.length : Int) then ((spec_Star.f (rd_L5 l0_0 5)).bind fun t135 => (spec_ExprGood.j2 kj11 (!t135) l0_0 a0_1)) else (none)) = some r := by rw [if_neg (show ¬ (false = true) by decide)] at H; exact H
                      clear H
                      have H := H1
                      clear H1
                      by_cases c26 : 5 < (l0_0.length : Int)
                      · rw [if_pos c26] at H
                        have c26b0 : decide (5 < (l0_0.length : Int)) = true := decide_eq_true c26
                        have c26b1 : decide (5 < l0_0.length) = true := decide_eq_true (by omega)
                        clear c26
                        replace H := Option.bind_eq_some_iff.mp H
                        obtain ⟨t135, A270, H⟩ := H
                        replace H : (spec_ExprGood.j2 kj11 (!t135) l0_0 a0_1) = some r := H
                        have A27 := Aside0.mk A270
                        clear A270
                        have H' := Aside0.mk H
                        clear H
                        have hcz28_0 : wc.cell? ⟨gb126, 0, none⟩ = some (.slice A0_0 l0_0.length c0_0) := (blk_cell BK126.out 0).trans rfl
                        have hcz28_1 : wc.cell? ⟨gb126, 1, none⟩ = some (.bool a0_1) := (blk_cell BK126.out 1).trans rfl
                        have hfz28_0 := blk_frozen BK126.out 0
                        have hfz28_1 := blk_frozen BK126.out 1
                        have p132 : 0 ≤ (3 : Int) := (by omega)
                        have q132 : 3 < (l0_0.length : Int) := of_decide_eq_true (by first | (with_reducible assumption) | assumption)
                        obtain ⟨ad132, A132_0, c132_0, e132, hx132_0, hl132_0, hi132_0⟩ := at_L5 HR0_0.out 3 p132 q132
                        cases e132
                        (try simp only [show (3 : Int).toNat = 3 from rfl, Nat.reduceMul, Nat.reduceEqDiff, Go.Addr.add, ↓reduceIte] at hx132_0)
                        have qi132 : (3 < l0_0.length) = True := eq_true (by omega)
                        (try rw [show ((3 : Int)).toNat = 3 from rfl] at hx132_0)
                        replace hx132_0 := (HB.out.cell (World.block_lt_of_cell? w _ hx132_0)).trans hx132_0
                        have HR132_0 := Aside0.mk hi132_0
                        have HC132_0 := Aside0.mk hl132_0
                        clear hi132_0 hl132_0
                        replace p132 := eq_true p132
                        replace q132 := eq_true q132
                        go_wp2_with (first | ((with_reducible refine gate_callee (f := 12) rfl ?_); refine goesL_ (some 49) rfl rfl Tryd.func12 (by kernel_rfl) rfl #[.slice A132_0 (rd_L5 l0_0 3).length c132_0] rfl (by (try simp only [List.map_toArray, List.map_cons, List.map_nil]); first | done | rfl | (simp only [List.length_drop, List.length_take]; rfl)) ?_; (with_reducible refine (spec_Star.calls _ _ (rd_L5 l0_0 3) false _ ?side1 ?side2 A23.out).mono ?_); (case side1 => repeat (first | exact (Kd.C_below HR132_0.out HB.out) | (with_reducible refine Kd.C_alloc ?_ _) | (with_reducible refine Kd.C_drewN ?_ _) | (with_reducible refine Kd.C_drew ?_))); (case side2 => exact HC132_0.out); rintro e w' ⟨rfl, ⟨nd, rfl⟩⟩; refine ⟨_, rfl, ?_⟩; have p134 : 0 ≤ (5 : Int) := (by omega); have q134 : 5 < (l0_0.length : Int) := of_decide_eq_true (by first | (with_reducible assumption) | assumption); obtain ⟨ad134, A134_0, c134_0, e134, hx134_0, hl134_0, hi134_0⟩ := at_L5 HR0_0.out 5 p134 q134; obtain rfl : ad132 = ad134 := (by injection e134); (try simp only [show (5 : Int).toNat = 5 from rfl, Nat.reduceMul, Nat.reduceEqDiff, Go.Addr.add, ↓reduceIte] at hx134_0); have qi134 : (5 < l0_0.length) = True := eq_true (by omega); (try rw [show ((5 : Int)).toNat = 5 from rfl] at hx134_0); replace hx134_0 := (HB.out.cell (World.block_lt_of_cell? w _ hx134_0)).trans hx134_0; have HR134_0 := Aside0.mk hi134_0; have HC134_0 := Aside0.mk hl134_0; clear hi134_0 hl134_0; replace p134 := eq_true p134; replace q134 := eq_true q134) | (go_at_call 12; (with_reducible refine (spec_Star.calls _ _ (rd_L5 l0_0 5) t135 _ ?side1 ?side2 A27.out).mono ?_); (case side1 => repeat (first | exact (Kd.C_below HR134_0.out (by repeat (first | (with_reducible first | exact HB.out | apply below_alloc | apply pw_below_drewN | apply below_drew1 | refine below_set ?_ GE126.out) | exact HB.out))) | (with_reducible refine Kd.C_alloc ?_ _) | (with_reducible refine Kd.C_drewN ?_ _) | (with_reducible refine Kd.C_drew ?_))); (case side2 => exact HC134_0.out); rintro e w' ⟨rfl, ⟨nd, rfl⟩⟩))
                        go_meet
                        case rel => exact ⟨_, (!t135), (by first | rfl | (simp; done) | (simp [*]; done)), H', ⟨by have := HK1.out; have := HJ11.out; first | omega | exact Nat.le_refl _⟩, ⟨by (with_reducible repeat (first | refine blk_drewN ?_ _ | refine blk_drew ?_ | refine blk_alloc ?_ _)); exact BK126.out⟩, ⟨by repeat (first | (with_reducible first | exact HB.out | apply below_alloc | apply pw_below_drewN | apply below_drew1 | refine below_set ?_ GE126.out) | exact HB.out)⟩⟩
                      · rw [if_neg c26] at H
                        exact absurd H (by simp)
                  · rw [if_neg c22] at H
                    exact absurd H (by simp)
                case rest =>
                  clear HC21
                  try clear c1
                  try clear p1
                  try clear q1
                  try clear hx1
                  try clear qi1
                  try clear c2
                  try clear c2b0
                  try clear c2b1
                  try clear p2
                  try clear c5
                  try clear c5b0
                  try clear c6
                  try clear c6b0
                  try clear p6
                  try clear c7
                  try clear c7b0
                  try clear c9
                  try clear c11
                  try clear c12
                  try clear p12
                  try clear q12
                  try clear hx12
                  try clear qi12
                  try clear c13
                  try clear p13
                  try clear q13
                  try clear hx13
                  try clear qi13
                  try clear c15
                  try clear c15b0
                  try clear c15b1
                  try clear c16
                  try clear c16b0
                  try clear c16b1
                  try clear c17
                  try clear c17b0
                  try clear c17b1
                  try clear c20
                  try clear c22
                  try clear c22b0
                  try clear c22b1
                  try clear c24
                  try clear c26
                  try clear c26b0
                  try clear c26b1
                  try clear hcz14_0
                  try clear hcz14_1
                  try clear hcz18_0
                  try clear hcz18_1
                  try clear hcz19_0
                  try clear hcz19_1
                  try clear hcz25_0
                  try clear hcz25_1
                  try clear hcz28_0
                  try clear hcz28_1
                  try clear hcz4_0
                  try clear hcz4_1
                  try clear hfz14_0
                  try clear hfz14_1
                  try clear hfz18_0
                  try clear hfz18_1
                  try clear hfz19_0
                  try clear hfz19_1
                  try clear hfz25_0
                  try clear hfz25_1
                  try clear hfz28_0
                  try clear hfz28_1
                  try clear hfz4_0
                  try clear hfz4_1
                  try clear hx127_0
                  try clear hx129_0
                  try clear hx130_0
                  try clear hx131_0
                  try clear hx131_1
                  try clear hx131_2
                  try clear hx131_3
                  try clear hx132_0
                  try clear hx134_0
                  try clear p1
                  try clear p12
                  try clear p127
                  try clear p129
                  try clear p13
                  try clear p130
                  try clear p131
                  try clear p132
                  try clear p134
                  try clear p2
                  try clear p6
                  try clear q1
                  try clear q12
                  try clear q127
                  try clear q129
                  try clear q13
                  try clear q130
                  try clear q131
                  try clear q132
                  try clear q134
                  obtain ⟨kq, x58_20, rfl, HA, HJ20, BK126, HB⟩ := hcut
                  cases kq with
                  | zero => exact absurd HA.out (by simp [spec_ExprGood.j2])
                  | succ kj20 =>
                    have H := HA.out
                    clear HA
                    simp only [spec_ExprGood.j2] at H
                    by_cases c29 : x58_20 = true
                    · subst c29
                      have H1 : (some false) = some r := by rw [if_pos rfl] at H; exact H
                      clear H
                      have H := H1
                      clear H1
                      obtain rfl := Option.some.inj H
                      go_wp2
                      go_ret
                      exact ⟨by first | rfl | (simp [errW_none, errW_some] <;> rfl) | (simp [*, errW_none, errW_some] <;> rfl), by repeat (first | (with_reducible first | exact HB.out | apply below_alloc | apply pw_below_drewN | apply below_drew1 | refine below_set ?_ GE126.out) | exact HB.out)⟩
                    · replace c29 := Bool.eq_false_iff.mpr c29
                      subst c29
                      have H1 : (if 4 < (l0_0.length : Int) then ((spec_Star.f (rd_L5 l0_0 4)).bind fun t137 => (if t137 = true then (some true) else (if 3 < (l0_0.length : Int) then (spec_ExprGood.l1 kj20 (rd_L5 l0_0 3) ((rd_L5 l0_0 3).length : Int) 0) else (none)))) else (none)) = some r := by rw [if_neg (show ¬ (false = true) by decide)] at H; exact H
                      clear H
                      have H := H1
                      clear H1
                      by_cases c30 : 4 < (l0_0.length : Int)
                      · rw [if_pos c30] at H
                        have c30b0 : decide (4 < (l0_0.length : Int)) = true := decide_eq_true c30
                        have c30b1 : decide (4 < l0_0.length) = true := decide_eq_true (by omega)
                        clear c30
                        replace H := Option.bind_eq_some_iff.mp H
                        obtain ⟨t137, A310, H⟩ := H
                        replace H : (if t137 = true then (some true) else (if 3 < (l0_0.length : Int) then (spec_ExprGood.l1 kj20 (rd_L5 l0_0 3) ((rd_L5 l0_0 3).length : Int) 0) else (none))) = some r := H
                        have A31 := Aside0.mk A310
                        clear A310
                        by_cases c32 : t137 = true
                        · subst c32
                          have H1 : (some true) = some r := by rw [if_pos rfl] at H; exact H
                          clear H
                          have H := H1
                          clear H1
                          obtain rfl := Option.some.inj H
                          have hcz33_0 : wc.cell? ⟨gb126, 0, none⟩ = some (.slice A0_0 l0_0.length c0_0) := (blk_cell BK126.out 0).trans rfl
                          have hcz33_1 : wc.cell? ⟨gb126, 1, none⟩ = some (.bool a0_1) := (blk_cell BK126.out 1).trans rfl
                          have hfz33_0 := blk_frozen BK126.out 0
                          have hfz33_1 := blk_frozen BK126.out 1
                          have p136 : 0 ≤ (4 : Int) := (by omega)
                          have q136 : 4 < (l0_0.length : Int) := of_decide_eq_true (by first | (with_reducible assumption) | assumption)
                          obtain ⟨ad136, A136_0, c136_0, e136, hx136_0, hl136_0, hi136_0⟩ := at_L5 HR0_0.out 4 p136 q136
                          cases e136
                          (try simp only [show (4 : Int).toNat = 4 from rfl, Nat.reduceMul, Nat.reduceEqDiff, Go.Addr.add, ↓reduceIte] at hx136_0)
                          have qi136 : (4 < l0_0.length) = True := eq_true (by omega)
                          (try rw [show ((4 : Int)).toNat = 4 from rfl] at hx136_0)
                          replace hx136_0 := (HB.out.cell (World.block_lt_of_cell? w _ hx136_0)).trans hx136_0
                          have HR136_0 := Aside0.mk hi136_0
                          have HC136_0 := Aside0.mk hl136_0
                          clear hi136_0 hl136_0
                          replace p136 := eq_true p136
                          replace q136 := eq_true q136
                          go_wp2_with (first | ((with_reducible refine gate_callee (f := 12) rfl ?_); refine goesL_ (some 63) rfl rfl Tryd.func12 (by kernel_rfl) rfl #[.slice A136_0 (rd_L5 l0_0 4).length c136_0] rfl (by (try simp only [List.map_toArray, List.map_cons, List.map_nil]); first | done | rfl | (simp only [List.length_drop, List.length_take]; rfl)) ?_; (with_reducible refine (spec_Star.calls _ _ (rd_L5 l0_0 4) true _ ?side1 ?side2 A31.out).mono ?_); (case side1 => repeat (first | exact (Kd.C_below HR136_0.out HB.out) | (with_reducible refine Kd.C_alloc ?_ _) | (with_reducible refine Kd.C_drewN ?_ _) | (with_reducible refine Kd.C_drew ?_))); (case side2 => exact HC136_0.out); rintro e w' ⟨rfl, ⟨nd, rfl⟩⟩; refine ⟨_, rfl, ?_⟩))
                          go_ret
                          exact ⟨by first | rfl | (simp [errW_none, errW_some] <;> rfl) | (simp [*, errW_none, errW_some] <;> rfl), by repeat (first | (with_reducible first | exact HB.out | apply below_alloc | apply pw_below_drewN | apply below_drew1 | refine below_set ?_ GE126.out) | exact HB.out)⟩
                        · replace c32 := Bool.eq_false_iff.mpr c32
                          subst c32
                          have H1 : (if 3 < (l0_0.length : Int) then (spec_ExprGood.l1 kj20 (rd_L5 l0_0 3) ((rd_L5 l0_0 3).length : Int) 0) else (none)) = some r := by rw [if_neg (show ¬ (false = true) by decide)] at H; exact H
                          clear H
                          have H := H1
                          clear H1
                          by_cases c34 : 3 < (l0_0.length : Int)
                          · rw [if_pos c34] at H
                            have c34b0 : decide (3 < (l0_0.length : Int)) = true := decide_eq_true c34
                            have c34b1 : decide (3 < l0_0.length) = true := decide_eq_true (by omega)
                            clear c34
                            have H' := Aside0.mk H
                            clear H
                            have hcz35_0 : wc.cell? ⟨gb126, 0, none⟩ = some (.slice A0_0 l0_0.length c0_0) := (blk_cell BK126.out 0).trans rfl
                            have hcz35_1 : wc.cell? ⟨gb126, 1, none⟩ = some (.bool a0_1) := (blk_cell BK126.out 1).trans rfl
                            have hfz35_0 := blk_frozen BK126.out 0
                            have hfz35_1 := blk_frozen BK126.out 1
                            have p136 : 0 ≤ (4 : Int) := (by omega)
                            have q136 : 4 < (l0_0.length : Int) := of_decide_eq_true (by first | (with_reducible assumption) | assumption)
                            obtain ⟨ad136, A136_0, c136_0, e136, hx136_0, hl136_0, hi136_0⟩ := at_L5 HR0_0.out 4 p136 q136
                            cases e136
                            (try simp only [show (4 : Int).toNat = 4 from rfl, Nat.reduceMul, Nat.reduceEqDiff, Go.Addr.add, ↓reduceIte] at hx136_0)
                            have qi136 : (4 < l0_0.length) = True := eq_true (by omega)
                            (try rw [show ((4 : Int)).toNat = 4 from rfl] at hx136_0)
                            replace hx136_0 := (HB.out.cell (World.block_lt_of_cell? w _ hx136_0)).trans hx136_0
                            have HR136_0 := Aside0.mk hi136_0
                            have HC136_0 := Aside0.mk hl136_0
                            clear hi136_0 hl136_0
                            replace p136 := eq_true p136
                            replace q136 := eq_true q136
                            go_wp2_with (first | ((with_reducible refine gate_callee (f := 12) rfl ?_); refine goesL_ (some 63) rfl rfl Tryd.func12 (by kernel_rfl) rfl #[.slice A136_0 (rd_L5 l0_0 4).length c136_0] rfl (by (try simp only [List.map_toArray, List.map_cons, List.map_nil]); first | done | rfl | (simp only [List.length_drop, List.length_take]; rfl)) ?_; (with_reducible refine (spec_Star.calls _ _ (rd_L5 l0_0 4) false _ ?side1 ?side2 A31.out).mono ?_); (case side1 => repeat (first | exact (Kd.C_below HR136_0.out HB.out) | (with_reducible refine Kd.C_alloc ?_ _) | (with_reducible refine Kd.C_drewN ?_ _) | (with_reducible refine Kd.C_drew ?_))); (case side2 => exact HC136_0.out); rintro e w' ⟨rfl, ⟨nd, rfl⟩⟩; refine ⟨_, rfl, ?_⟩; have p138 : 0 ≤ (3 : Int) := (by omega); have q138 : 3 < (l0_0.length : Int) := of_decide_eq_true (by first | (with_reducible assumption) | assumption); obtain ⟨ad138, A138_0, c138_0, e138, hx138_0, hl138_0, hi138_0⟩ := at_L5 HR0_0.out 3 p138 q138; obtain rfl : ad136 = ad138 := (by injection e138); (try simp only [show (3 : Int).toNat = 3 from rfl, Nat.reduceMul, Nat.reduceEqDiff, Go.Addr.add, ↓reduceIte] at hx138_0); have qi138 : (3 < l0_0.length) = True := eq_true (by omega); (try rw [show ((3 : Int)).toNat = 3 from rfl] at hx138_0); replace hx138_0 := (HB.out.cell (World.block_lt_of_cell? w _ hx138_0)).trans hx138_0; have HR138_0 := Aside0.mk hi138_0; have HC138_0 := Aside0.mk hl138_0; clear hi138_0 hl138_0; replace p138 := eq_true p138; replace q138 := eq_true q138))
                            go_loopg [70] kj20 (fun kq v70 w' => ∃ (x70_4 : Int), v70 = .int .i64 x70_4 ∧ Aside0 (spec_ExprGood.l1 kq (rd_L5 l0_0 3) ((rd_L5 l0_0 3).length : Int) x70_4 = some r) ∧ Aside0 (kq ≤ kj20) ∧ Aside0 (w'.heap[gb126]? = some (.cells #[(.slice (some ad136) l0_0.length c0_0), .bool a0_1] 28 (0, 0))) ∧ Aside0 (Below w.heap.size w w'))
                            case atStart => exact ⟨(0), (by first | rfl | (simp; done) | (simp [*]; done)), H', ⟨Nat.le_refl _⟩, ⟨by (with_reducible repeat (first | refine blk_drewN ?_ _ | refine blk_drew ?_ | refine blk_alloc ?_ _)); exact BK126.out⟩, ⟨by repeat (first | (with_reducible first | exact HB.out | apply below_alloc | apply pw_below_drewN | apply below_drew1 | refine below_set ?_ GE126.out) | exact HB.out)⟩⟩
                            case round =>
                              clear H'
                              try clear c1
                              try clear p1
                              try clear q1
                              try clear hx1
                              try clear qi1
                              try clear c2
                              try clear c2b0
                              try clear c2b1
                              try clear p2
                              try clear c3
                              try clear c5
                              try clear c5b0
                              try clear c6
                              try clear c6b0
                              try clear p6
                              try clear c7
                              try clear c7b0
                              try clear c9
                              try clear c11
                              try clear c12
                              try clear p12
                              try clear q12
                              try clear hx12
                              try clear qi12
                              try clear c13
                              try clear p13
                              try clear q13
                              try clear hx13
                              try clear qi13
                              try clear c15
                              try clear c15b0
                              try clear c15b1
                              try clear c16
                              try clear c16b0
                              try clear c16b1
                              try clear c17
                              try clear c17b0
                              try clear c17b1
                              try clear c20
                              try clear c22
                              try clear c22b0
                              try clear c22b1
                              try clear c24
                              try clear c26
                              try clear c26b0
                              try clear c26b1
                              try clear c29
                              try clear c30
                              try clear c30b0
                              try clear c30b1
                              try clear c32
                              try clear c34
                              try clear c34b0
                              try clear c34b1
                              try clear hcz14_0
                              try clear hcz14_1
                              try clear hcz18_0
                              try clear hcz18_1
                              try clear hcz19_0
                              try clear hcz19_1
                              try clear hcz25_0
                              try clear hcz25_1
                              try clear hcz28_0
                              try clear hcz28_1
                              try clear hcz33_0
                              try clear hcz33_1
                              try clear hcz35_0
                              try clear hcz35_1
                              try clear hcz4_0
                              try clear hcz4_1
                              try clear hfz14_0
                              try clear hfz14_1
                              try clear hfz18_0
                              try clear hfz18_1
                              try clear hfz19_0
                              try clear hfz19_1
                              try clear hfz25_0
                              try clear hfz25_1
                              try clear hfz28_0
                              try clear hfz28_1
                              try clear hfz33_0
                              try clear hfz33_1
                              try clear hfz35_0
                              try clear hfz35_1
                              try clear hfz4_0
                              try clear hfz4_1
                              try clear hx127_0
                              try clear hx129_0
                              try clear hx130_0
                              try clear hx131_0
                              try clear hx131_1
                              try clear hx131_2
                              try clear hx131_3
                              try clear hx132_0
                              try clear hx134_0
                              try clear hx136_0
                              try clear hx138_0
                              try clear p1
                              try clear p12
                              try clear p127
                              try clear p129
                              try clear p13
                              try clear p130
                              try clear p131
                              try clear p132
                              try clear p134
                              try clear p136
                              try clear p138
                              try clear p2
                              try clear p6
                              try clear q1
                              try clear q12
                              try clear q127
                              try clear q129
                              try clear q13
                              try clear q130
                              try clear q131
                              try clear q132
                              try clear q134
                              try clear q136
                              try clear q138
                              obtain ⟨x70_4, rfl, HA, HK4, BK126, HB⟩ := hrel
                              cases gk with
                              | zero => exact absurd HA.out (by simp [spec_ExprGood.l1])
                              | succ k4 =>
                                have H := HA.out
                                clear HA
                                simp only [spec_ExprGood.l1] at H
                                by_cases c36 : x70_4 < ((rd_L5 l0_0 3).length : Int)
                                · rw [if_pos c36] at H
                                  have c36b0 : decide (x70_4 < ((rd_L5 l0_0 3).length : Int)) = true := decide_eq_true c36
                                  clear c36
                                  by_cases c37 : 0 ≤ x70_4
                                  · rw [if_pos c37] at H
                                    have c37b0 : decide (0 ≤ x70_4) = true := decide_eq_true c37
                                    clear c37
                                    by_cases c38 : x70_4 < ((rd_L5 l0_0 3).length : Int)
                                    · rw [if_pos c38] at H
                                      have c38b0 : decide (x70_4 < ((rd_L5 l0_0 3).length : Int)) = true := decide_eq_true c38
                                      clear c38
                                      obtain ⟨bq39, hbq39⟩ : ∃ b_ : Bool, b_ = ((rd_T41 (rd_L5 l0_0 3) x70_4).f0) := ⟨_, rfl⟩
                                      replace H : (if (bq39 = true) then (spec_ExprGood.l1 k4 (rd_L5 l0_0 3) ((rd_L5 l0_0 3).length : Int) (wrap64 (x70_4 + 1))) else (if ((rd_T41 (rd_L5 l0_0 3) x70_4).f1) > 28 then (some false) else (spec_ExprGood.l1 k4 (rd_L5 l0_0 3) ((rd_L5 l0_0 3).length : Int) (wrap64 (x70_4 + 1))))) = some r := by rw [← hbq39] at H; exact H
                                      have Nbq39 := Aside0.mk hbq39
                                      clear hbq39
                                      by_cases c40 : (bq39 = true)
                                      · subst c40
                                        have H1 : (spec_ExprGood.l1 k4 (rd_L5 l0_0 3) ((rd_L5 l0_0 3).length : Int) (wrap64 (x70_4 + 1))) = some r := by rw [if_pos rfl] at H; exact H
                                        clear H
                                        have H := H1
                                        clear H1
                                        have H' := Aside0.mk H
                                        clear H
                                        have p139 : 0 ≤ (x70_4 : Int) := of_decide_eq_true (by first | (with_reducible assumption) | assumption)
                                        have q139 : x70_4 < ((rd_L5 l0_0 3).length : Int) := of_decide_eq_true (by first | (with_reducible assumption) | assumption)
                                        obtain ⟨ad139, e139, hx139_0, hx139_1, hx139_2, hx139_3⟩ := at_T41 HR138_0.out x70_4 p139 q139
                                        (try rw [← Nbq39.out] at hx139_0)
                                        cases e139
                                        replace hx139_0 := (HB.out.cell (World.block_lt_of_cell? w _ hx139_0)).trans hx139_0
                                        replace hx139_1 := (HB.out.cell (World.block_lt_of_cell? w _ hx139_1)).trans hx139_1
                                        replace hx139_2 := (HB.out.cell (World.block_lt_of_cell? w _ hx139_2)).trans hx139_2
                                        replace hx139_3 := (HB.out.cell (World.block_lt_of_cell? w _ hx139_3)).trans hx139_3
                                        replace p139 := eq_true p139
                                        replace q139 := eq_true q139
                                        go_wp2_with (first | ((with_reducible refine gate_dst (N := 6) rfl ?_); (try (refine gate_guard (by rfl) ?_; dsimp only)); refine box_event ?hg (N := 6) ?hd (cs := #[.bool false, .int .i64 0, .int .i64 0, .int .i64 0]) (t := 41) ?hr ?_; (case hd => rfl); (case hg => rfl); (case hr => first | (go_simp; done) | (go_simp; rfl)); intro gb140 hg w41 hbox hb; have n0_ := Aside0.mk (blk_below (g := gb126) (o := .cells #[.slice (some ad136) l0_0.length c0_0, .bool a0_1] 28 (0, 0)) (by (with_reducible repeat (first | refine blk_drewN ?_ _ | refine blk_drew ?_ | refine blk_alloc ?_ _)); exact BK126.out) hb); have n1_ := Aside0.mk (below_step (by repeat (first | (with_reducible first | exact HB.out | apply below_alloc | apply pw_below_drewN | apply below_drew1 | refine below_set ?_ GE126.out) | exact HB.out)) hb); have n2_ := Aside0.mk (hbox); have n3_ := Aside0.mk ((by rw [hg]; exact (below_size (by repeat (first | (with_reducible first | exact HB.out | apply below_alloc | apply pw_below_drewN | apply below_drew1 | refine below_set ?_ GE126.out) | exact HB.out))) : w.heap.size ≤ gb140)); have n4_ := Aside0.mk ((by rw [hg]; exact (below_size (by repeat (first | (with_reducible first | exact HB.out | apply below_alloc | apply pw_below_drewN | apply below_drew1 | refine below_set ?_ GE126.out) | exact HB.out))) : w.heap.size ≤ gb140)); have n5_ := Aside0.mk ((by rw [hg]; exact Nat.ne_of_lt (blk_lt (g := gb126) (o := .cells #[.slice (some ad136) l0_0.length c0_0, .bool a0_1] 28 (0, 0)) (by (with_reducible repeat (first | refine blk_drewN ?_ _ | refine blk_drew ?_ | refine blk_alloc ?_ _)); exact BK126.out)) : gb126 ≠ gb140)); have n6_ := Aside0.mk ((by rw [hg]; exact Nat.ne_of_gt (blk_lt (g := gb126) (o := .cells #[.slice (some ad136) l0_0.length c0_0, .bool a0_1] 28 (0, 0)) (by (with_reducible repeat (first | refine blk_drewN ?_ _ | refine blk_drew ?_ | refine blk_alloc ?_ _)); exact BK126.out)) : gb140 ≠ gb126)); clear BK126; clear HB; have BK126 := n0_; have HB := n1_; have BK140 := n2_; have GW140 := n3_; have GE140 := n4_; have NB126_140 := n5_; have NB140_126 := n6_; clear n0_ n1_ n2_ n3_ n4_ n5_ n6_; clear hb hbox hg; have hnb42 := NB140_126.out; have hnc42 := NB126_140.out; have hcz43_0 : w41.cell? ⟨gb140, 0, none⟩ = some (.bool false) := (blk_cell BK140.out 0).trans rfl; have hcz43_1 : w41.cell? ⟨gb140, 1, none⟩ = some (.int .i64 0) := (blk_cell BK140.out 1).trans rfl; have hcz43_2 : w41.cell? ⟨gb140, 2, none⟩ = some (.int .i64 0) := (blk_cell BK140.out 2).trans rfl; have hcz43_3 : w41.cell? ⟨gb140, 3, none⟩ = some (.int .i64 0) := (blk_cell BK140.out 3).trans rfl; have hfz43_0 := blk_frozen BK140.out 0; have hfz43_1 := blk_frozen BK140.out 1; have hfz43_2 := blk_frozen BK140.out 2; have hfz43_3 := blk_frozen BK140.out 3))
                                        go_roundg k4
                                        case measure => have := HK1.out; have := HJ11.out; have := HJ20.out; have := HK4.out; omega
                                        case rel => exact ⟨(wrap64 (x70_4 + 1)), (by first | rfl | (simp; done) | (simp [*]; done)), H', ⟨by have := HK1.out; have := HJ11.out; have := HJ20.out; have := HK4.out; omega⟩, ⟨by (with_reducible repeat (first | refine blk_drewN ?_ _ | refine blk_drew ?_ | refine blk_alloc ?_ _)); refine blk_far ?_ NB126_140.out _; (with_reducible repeat (first | refine blk_drewN ?_ _ | refine blk_drew ?_ | refine blk_alloc ?_ _)); refine blk_far ?_ NB126_140.out _; (with_reducible repeat (first | refine blk_drewN ?_ _ | refine blk_drew ?_ | refine blk_alloc ?_ _)); refine blk_far ?_ NB126_140.out _; (with_reducible repeat (first | refine blk_drewN ?_ _ | refine blk_drew ?_ | refine blk_alloc ?_ _)); refine blk_far ?_ NB126_140.out _; (with_reducible repeat (first | refine blk_drewN ?_ _ | refine blk_drew ?_ | refine blk_alloc ?_ _)); exact BK126.out⟩, ⟨by repeat (first | (with_reducible first | exact HB.out | apply below_alloc | apply pw_below_drewN | apply below_drew1 | refine below_set ?_ GE126.out | refine below_set ?_ GE140.out) | exact HB.out)⟩⟩
                                      · replace c40 := Bool.eq_false_iff.mpr c40
                                        subst c40
                                        have H1 : (if ((rd_T41 (rd_L5 l0_0 3) x70_4).f1) > 28 then (some false) else (spec_ExprGood.l1 k4 (rd_L5 l0_0 3) ((rd_L5 l0_0 3).length : Int) (wrap64 (x70_4 + 1)))) = some r := by rw [if_neg (show ¬ (false = true) by decide)] at H; exact H
                                        clear H
                                        have H := H1
                                        clear H1
                                        by_cases c44 : ((rd_T41 (rd_L5 l0_0 3) x70_4).f1) > 28
                                        · rw [if_pos c44] at H
                                          have c44b0 : decide (28 < ((rd_T41 (rd_L5 l0_0 3) x70_4).f1)) = true := decide_eq_true c44
                                          clear c44
                                          obtain rfl := Option.some.inj H
                                          have p139 : 0 ≤ (x70_4 : Int) := of_decide_eq_true (by first | (with_reducible assumption) | assumption)
                                          have q139 : x70_4 < ((rd_L5 l0_0 3).length : Int) := of_decide_eq_true (by first | (with_reducible assumption) | assumption)
                                          obtain ⟨ad139, e139, hx139_0, hx139_1, hx139_2, hx139_3⟩ := at_T41 HR138_0.out x70_4 p139 q139
                                          (try rw [← Nbq39.out] at hx139_0)
                                          cases e139
                                          replace hx139_0 := (HB.out.cell (World.block_lt_of_cell? w _ hx139_0)).trans hx139_0
                                          replace hx139_1 := (HB.out.cell (World.block_lt_of_cell? w _ hx139_1)).trans hx139_1
                                          replace hx139_2 := (HB.out.cell (World.block_lt_of_cell? w _ hx139_2)).trans hx139_2
                                          replace hx139_3 := (HB.out.cell (World.block_lt_of_cell? w _ hx139_3)).trans hx139_3
                                          replace p139 := eq_true p139
                                          replace q139 := eq_true q139
                                          go_wp2_with (first | ((with_reducible refine gate_dst (N := 6) rfl ?_); (try (refine gate_guard (by rfl) ?_; dsimp only)); refine box_event ?hg (N := 6) ?hd (cs := #[.bool false, .int .i64 0, .int .i64 0, .int .i64 0]) (t := 41) ?hr ?_; (case hd => rfl); (case hg => rfl); (case hr => first | (go_simp; done) | (go_simp; rfl)); intro gb140 hg w45 hbox hb; have n0_ := Aside0.mk (blk_below (g := gb126) (o := .cells #[.slice (some ad136) l0_0.length c0_0, .bool a0_1] 28 (0, 0)) (by (with_reducible repeat (first | refine blk_drewN ?_ _ | refine blk_drew ?_ | refine blk_alloc ?_ _)); exact BK126.out) hb); have n1_ := Aside0.mk (below_step (by repeat (first | (with_reducible first | exact HB.out | apply below_alloc | apply pw_below_drewN | apply below_drew1 | refine below_set ?_ GE126.out) | exact HB.out)) hb); have n2_ := Aside0.mk (hbox); have n3_ := Aside0.mk ((by rw [hg]; exact (below_size (by repeat (first | (with_reducible first | exact HB.out | apply below_alloc | apply pw_below_drewN | apply below_drew1 | refine below_set ?_ GE126.out) | exact HB.out))) : w.heap.size ≤ gb140)); have n4_ := Aside0.mk ((by rw [hg]; exact (below_size (by repeat (first | (with_reducible first | exact HB.out | apply below_alloc | apply pw_below_drewN | apply below_drew1 | refine below_set ?_ GE126.out) | exact HB.out))) : w.heap.size ≤ gb140)); have n5_ := Aside0.mk ((by rw [hg]; exact Nat.ne_of_lt (blk_lt (g := gb126) (o := .cells #[.slice (some ad136) l0_0.length c0_0, .bool a0_1] 28 (0, 0)) (by (with_reducible repeat (first | refine blk_drewN ?_ _ | refine blk_drew ?_ | refine blk_alloc ?_ _)); exact BK126.out)) : gb126 ≠ gb140)); have n6_ := Aside0.mk ((by rw [hg]; exact Nat.ne_of_gt (blk_lt (g := gb126) (o := .cells #[.slice (some ad136) l0_0.length c0_0, .bool a0_1] 28 (0, 0)) (by (with_reducible repeat (first | refine blk_drewN ?_ _ | refine blk_drew ?_ | refine blk_alloc ?_ _)); exact BK126.out)) : gb140 ≠ gb126)); clear BK126; clear HB; have BK126 := n0_; have HB := n1_; have BK140 := n2_; have GW140 := n3_; have GE140 := n4_; have NB126_140 := n5_; have NB140_126 := n6_; clear n0_ n1_ n2_ n3_ n4_ n5_ n6_; clear hb hbox hg; have hnb46 := NB140_126.out; have hnc46 := NB126_140.out; have hcz47_0 : w45.cell? ⟨gb140, 0, none⟩ = some (.bool false) := (blk_cell BK140.out 0).trans rfl; have hcz47_1 : w45.cell? ⟨gb140, 1, none⟩ = some (.int .i64 0) := (blk_cell BK140.out 1).trans rfl; have hcz47_2 : w45.cell? ⟨gb140, 2, none⟩ = some (.int .i64 0) := (blk_cell BK140.out 2).trans rfl; have hcz47_3 : w45.cell? ⟨gb140, 3, none⟩ = some (.int .i64 0) := (blk_cell BK140.out 3).trans rfl; have hfz47_0 := blk_frozen BK140.out 0; have hfz47_1 := blk_frozen BK140.out 1; have hfz47_2 := blk_frozen BK140.out 2; have hfz47_3 := blk_frozen BK140.out 3))
                                          go_ret
                                          exact ⟨by first | rfl | (simp [errW_none, errW_some] <;> rfl) | (simp [*, errW_none, errW_some] <;> rfl), by repeat (first | (with_reducible first | exact HB.out | apply below_alloc | apply pw_below_drewN | apply below_drew1 | refine below_set ?_ GE126.out | refine below_set ?_ GE140.out) | exact HB.out)⟩
                                        · rw [if_neg c44] at H
                                          have c44b0 : decide (28 < ((rd_T41 (rd_L5 l0_0 3) x70_4).f1)) = false := decide_eq_false c44
                                          clear c44
                                          have H' := Aside0.mk H
                                          clear H
                                          have p139 : 0 ≤ (x70_4 : Int) := of_decide_eq_true (by first | (with_reducible assumption) | assumption)
                                          have q139 : x70_4 < ((rd_L5 l0_0 3).length : Int) := of_decide_eq_true (by first | (with_reducible assumption) | assumption)
                                          obtain ⟨ad139, e139, hx139_0, hx139_1, hx139_2, hx139_3⟩ := at_T41 HR138_0.out x70_4 p139 q139
                                          (try rw [← Nbq39.out] at hx139_0)
                                          cases e139
                                          replace hx139_0 := (HB.out.cell (World.block_lt_of_cell? w _ hx139_0)).trans hx139_0
                                          replace hx139_1 := (HB.out.cell (World.block_lt_of_cell? w _ hx139_1)).trans hx139_1
                                          replace hx139_2 := (HB.out.cell (World.block_lt_of_cell? w _ hx139_2)).trans hx139_2
                                          replace hx139_3 := (HB.out.cell (World.block_lt_of_cell? w _ hx139_3)).trans hx139_3
                                          replace p139 := eq_true p139
                                          replace q139 := eq_true q139
                                          go_wp2_with (first | ((with_reducible refine gate_dst (N := 6) rfl ?_); (try (refine gate_guard (by rfl) ?_; dsimp only)); refine box_event ?hg (N := 6) ?hd (cs := #[.bool false, .int .i64 0, .int .i64 0, .int .i64 0]) (t := 41) ?hr ?_; (case hd => rfl); (case hg => rfl); (case hr => first | (go_simp; done) | (go_simp; rfl)); intro gb140 hg w48 hbox hb; have n0_ := Aside0.mk (blk_below (g := gb126) (o := .cells #[.slice (some ad136) l0_0.length c0_0, .bool a0_1] 28 (0, 0)) (by (with_reducible repeat (first | refine blk_drewN ?_ _ | refine blk_drew ?_ | refine blk_alloc ?_ _)); exact BK126.out) hb); have n1_ := Aside0.mk (below_step (by repeat (first | (with_reducible first | exact HB.out | apply below_alloc | apply pw_below_drewN | apply below_drew1 | refine below_set ?_ GE126.out) | exact HB.out)) hb); have n2_ := Aside0.mk (hbox); have n3_ := Aside0.mk ((by rw [hg]; exact (below_size (by repeat (first | (with_reducible first | exact HB.out | apply below_alloc | apply pw_below_drewN | apply below_drew1 | refine below_set ?_ GE126.out) | exact HB.out))) : w.heap.size ≤ gb140)); have n4_ := Aside0.mk ((by rw [hg]; exact (below_size (by repeat (first | (with_reducible first | exact HB.out | apply below_alloc | apply pw_below_drewN | apply below_drew1 | refine below_set ?_ GE126.out) | exact HB.out))) : w.heap.size ≤ gb140)); have n5_ := Aside0.mk ((by rw [hg]; exact Nat.ne_of_lt (blk_lt (g := gb126) (o := .cells #[.slice (some ad136) l0_0.length c0_0, .bool a0_1] 28 (0, 0)) (by (with_reducible repeat (first | refine blk_drewN ?_ _ | refine blk_drew ?_ | refine blk_alloc ?_ _)); exact BK126.out)) : gb126 ≠ gb140)); have n6_ := Aside0.mk ((by rw [hg]; exact Nat.ne_of_gt (blk_lt (g := gb126) (o := .cells #[.slice (some ad136) l0_0.length c0_0, .bool a0_1] 28 (0, 0)) (by (with_reducible repeat (first | refine blk_drewN ?_ _ | refine blk_drew ?_ | refine blk_alloc ?_ _)); exact BK126.out)) : gb140 ≠ gb126)); clear BK126; clear HB; have BK126 := n0_; have HB := n1_; have BK140 := n2_; have GW140 := n3_; have GE140 := n4_; have NB126_140 := n5_; have NB140_126 := n6_; clear n0_ n1_ n2_ n3_ n4_ n5_ n6_; clear hb hbox hg; have hnb49 := NB140_126.out; have hnc49 := NB126_140.out; have hcz50_0 : w48.cell? ⟨gb140, 0, none⟩ = some (.bool false) := (blk_cell BK140.out 0).trans rfl; have hcz50_1 : w48.cell? ⟨gb140, 1, none⟩ = some (.int .i64 0) := (blk_cell BK140.out 1).trans rfl; have hcz50_2 : w48.cell? ⟨gb140, 2, none⟩ = some (.int .i64 0) := (blk_cell BK140.out 2).trans rfl; have hcz50_3 : w48.cell? ⟨gb140, 3, none⟩ = some (.int .i64 0) := (blk_cell BK140.out 3).trans rfl; have hfz50_0 := blk_frozen BK140.out 0; have hfz50_1 := blk_frozen BK140.out 1; have hfz50_2 := blk_frozen BK140.out 2; have hfz50_3 := blk_frozen BK140.out 3))
                                          go_roundg k4
                                          case measure => have := HK1.out; have := HJ11.out; have := HJ20.out; have := HK4.out; omega
                                          case rel => exact ⟨(wrap64 (x70_4 + 1)), (by first | rfl | (simp; done) | (simp [*]; done)), H', ⟨by have := HK1.out; have := HJ11.out; have := HJ20.out; have := HK4.out; omega⟩, ⟨by (with_reducible repeat (first | refine blk_drewN ?_ _ | refine blk_drew ?_ | refine blk_alloc ?_ _)); refine blk_far ?_ NB126_140.out _; (with_reducible repeat (first | refine blk_drewN ?_ _ | refine blk_drew ?_ | refine blk_alloc ?_ _)); refine blk_far ?_ NB126_140.out _; (with_reducible repeat (first | refine blk_drewN ?_ _ | refine blk_drew ?_ | refine blk_alloc ?_ _)); refine blk_far ?_ NB126_140.out _; (with_reducible repeat (first | refine blk_drewN ?_ _ | refine blk_drew ?_ | refine blk_alloc ?_ _)); refine blk_far ?_ NB126_140.out _; (with_reducible repeat (first | refine blk_drewN ?_ _ | refine blk_drew ?_ | refine blk_alloc ?_ _)); exact BK126.out⟩, ⟨by repeat (first | (with_reducible first | exact HB.out | apply below_alloc | apply pw_below_drewN | apply below_drew1 | refine below_set ?_ GE126.out | refine below_set ?_ GE140.out) | exact HB.out)⟩⟩
                                    · rw [if_neg c38] at H
                                      exact absurd H (by simp)
                                  · rw [if_neg c37] at H
                                    exact absurd H (by simp)
                                · rw [if_neg c36] at H
                                  have c36b0 : decide (x70_4 < ((rd_L5 l0_0 3).length : Int)) = false := decide_eq_false c36
                                  clear c36
                                  obtain rfl := Option.some.inj H
                                  go_wp2
                                  go_ret
                                  exact ⟨by first | rfl | (simp [errW_none, errW_some] <;> rfl) | (simp [*, errW_none, errW_some] <;> rfl), by repeat (first | (with_reducible first | exact HB.out | apply below_alloc | apply pw_below_drewN | apply below_drew1 | refine below_set ?_ GE126.out) | exact HB.out)⟩
                          · rw [if_neg c34] at H
                            exact absurd H (by simp)
                      · rw [if_neg c30] at H
                        exact absurd H (by simp)
  · rw [if_neg c2] at H
    have c2b0 : ((l0_0.length : Int) == 6) = false := beq_eq_false_iff_ne.mpr c2
    have c2b1 : ((l0_0.length : Int) != 6) = true := bne_iff_ne.mpr c2
    obtain rfl := Option.some.inj H
    go_enter Tryd.func6, Tryd.ntmps6
    go_wp2_with (first | ((with_reducible refine gate_dst (N := 1) rfl ?_); (try (refine gate_guard (by rfl) ?_; dsimp only)); refine box_event ?hg (N := 1) ?hd (cs := #[.slice A0_0 l0_0.length c0_0, .bool a0_1]) (t := 28) ?hr ?_; (case hd => rfl); (case hg => rfl); (case hr => first | (go_simp; done) | (go_simp; rfl)); intro gb126 hg w51 hbox hb; have n0_ := Aside0.mk (below_step (by repeat (first | (with_reducible first | exact HB.out | apply below_alloc | apply pw_below_drewN | apply below_drew1) | exact HB.out)) hb); have n1_ := Aside0.mk (hbox); have n2_ := Aside0.mk ((by rw [hg]; exact (below_size (by repeat (first | (with_reducible first | exact HB.out | apply below_alloc | apply pw_below_drewN | apply below_drew1) | exact HB.out))) : w.heap.size ≤ gb126)); have n3_ := Aside0.mk ((by rw [hg]; exact (below_size (by repeat (first | (with_reducible first | exact HB.out | apply below_alloc | apply pw_below_drewN | apply below_drew1) | exact HB.out))) : w.heap.size ≤ gb126)); clear HB; have HB := n0_; have BK126 := n1_; have GW126 := n2_; have GE126 := n3_; clear n0_ n1_ n2_ n3_; clear hb hbox hg; have hcz52_0 : w51.cell? ⟨gb126, 0, none⟩ = some (.slice A0_0 l0_0.length c0_0) := (blk_cell BK126.out 0).trans rfl; have hcz52_1 : w51.cell? ⟨gb126, 1, none⟩ = some (.bool a0_1) := (blk_cell BK126.out 1).trans rfl; have hfz52_0 := blk_frozen BK126.out 0; have hfz52_1 := blk_frozen BK126.out 1))
    go_ret
    exact ⟨by first | rfl | (simp [errW_none, errW_some] <;> rfl) | (simp [*, errW_none, errW_some] <;> rfl), by repeat (first | (with_reducible first | exact HB.out | apply below_alloc | apply pw_below_drewN | apply below_drew1 | refine below_set ?_ GE126.out) | exact HB.out)⟩

end Go.Proofs.YthndpmjmnglhfaaDoor.Core
