/- Contracts and plain lemmas of this seat (part 3), merged by wip/merge2.py; what is proved stands in the claim's last text. -/
import Derived.Test.YtkhgeonlohafgaaGreatDoorCDay1
import Derived.Test.YtkhgeonlohafgaaGreatDoorCDay2
import Derived.Lib.Strings
import Derived.Laws.BitsAllLaws
import Derived.Test.YtkhgeonlohafgaaGreatDoorProg
import Derived.WalkKit
import Derived.KernelRfl
import Derived.RowKit3
import Derived.WalkSpells
import Derived.WalkLawsBesides
import Derived.Below
import Derived.Outline
import Derived.Deep.QuietTactic
import Derived.BigQuiet
import Derived.Laws.Rows
namespace Go.Proofs.YtkhgeonlohafgaaGreatDoor.Core
open Go.RowKit Go.Proofs.YtkhgeonlohafgaaGreatDoorW.PrintWords Go.Proofs.YtkhgeonlohafgaaGreatDoorW.PrintLast Go.Proofs.YtkhgeonlohafgaaGreatDoorW.PrintMore
attribute [local go_sem] max2_int min2_int max_two min_two max_three min_three max_four min_four   -- for this text's walks alone
set_option linter.unusedVariables false
set_option linter.unusedSimpArgs false
noncomputable def laws_FnDayNames.j0 : Nat → Int → Bool → Int → Int → Int → Int → Int → Int → Option (Bool)
  | 0, _, _, _, _, _, _, _, _ => none
  | k + 1, x0, x22, x291000, x291001, x291002, x291003, x291004, x291005 => if x22 = true then (some true) else ((spec_Decimal.f k x0).bind fun t298 => ((laws_stars.f k 5 t298).bind fun t299 => ((impl_Due.f t299 x291000 x291001 x291002 0 0 0).bind fun bt300 => ((spec_DayName.f x0).bind fun t302 => ((laws_stars.f k 5 t302).bind fun t303 => ((impl_Due.f t303 x291000 x291001 x291002 0 0 0).bind fun bt304 => ((spec_DayName.f x0).bind fun t306 => ((spec_Lower.f t306).bind fun t307 => ((laws_stars.f k 5 t307).bind fun t308 => ((impl_Due.f t308 x291000 x291001 x291002 0 0 0).bind fun bt309 => (if bt300.2 = true then (if bt304.2 = true then (if bt309.2 = true then ((laws_moment.f x291000 x291001 x291002 0 0 0).bind fun bt311 => ((laws_numbers.f k bt311.1 bt311.2.1 bt311.2.2.1 bt311.2.2.2.1 bt311.2.2.2.2.1 bt311.2.2.2.2.2).bind fun bt317 => (if (bt300.1 == (bt317.2.2.2.2.2 == x0)) = true then (if (bt304.1 == bt300.1) = true then (some (bt309.1 == bt300.1)) else (some false)) else (some false)))) else (some false)) else (some false)) else (some false))))))))))))
noncomputable def laws_FnDayNames.f (k : Nat) (a0 : Int) (a1_0 : Int) (a1_1 : Int) (a1_2 : Int) (a1_3 : Int) (a1_4 : Int) (a1_5 : Int) : Option (Bool) := if a0 < 0 then (laws_FnDayNames.j0 k a0 true a1_0 a1_1 a1_2 a1_3 a1_4 a1_5) else (if a0 > 6 then (laws_FnDayNames.j0 k a0 true a1_0 a1_1 a1_2 a1_3 a1_4 a1_5) else ((laws_moment.f a1_0 a1_1 a1_2 a1_3 a1_4 a1_5).bind fun bt291 => ((spec_MomentGood.f bt291.1 bt291.2.1 bt291.2.2.1 bt291.2.2.2.1 bt291.2.2.2.2.1 bt291.2.2.2.2.2).bind fun t297 => (laws_FnDayNames.j0 k a0 (!t297) a1_0 a1_1 a1_2 a1_3 a1_4 a1_5))))
def laws_FnDayNames.T4 : Bool × List (List Nat × List Nat) := (true, [([], []), ([0], [0]), ([1, 1], [1]), ([], []), ([2, 3, 2], [2, 3]), ([4], [4]), ([5], [5]), ([5], [5]), ([6, 4, 0, 1, 2, 3, 4, 5, 6], [6]), ([7, 8, 0, 1, 2, 3, 4, 5, 6, 7, 8], [7])])
def laws_FnDayNames.B4 : List Nat := [0, 1, 3, 0, 15, 31, 63, 63, 127, 511]
theorem laws_FnDayNames.tab4 : rtab .any (opsOf Tryz.f6 4) = laws_FnDayNames.T4 := by kernel_rfl
theorem laws_FnDayNames.bits4 : waitsOk laws_FnDayNames.T4.2 laws_FnDayNames.B4 = true := by kernel_rfl
def laws_FnDayNames.T5 : Bool × List (List Nat × List Nat) := (true, [([], []), ([0], [0]), ([1, 1], [1]), ([], []), ([2, 3, 2], [2, 3]), ([4], [4]), ([5], [5]), ([5], [5]), ([6, 4, 0, 1, 2, 3, 4, 5, 6], [6]), ([7, 8, 0, 1, 2, 3, 4, 5, 6, 7, 8], [7])])
def laws_FnDayNames.B5 : List Nat := [0, 1, 3, 0, 15, 31, 63, 63, 127, 511]
theorem laws_FnDayNames.tab5 : rtab .any (opsOf Tryz.f6 5) = laws_FnDayNames.T5 := by kernel_rfl
theorem laws_FnDayNames.bits5 : waitsOk laws_FnDayNames.T5.2 laws_FnDayNames.B5 = true := by kernel_rfl
def laws_FnDayNames.T6 : Bool × List (List Nat × List Nat) := (true, [([], []), ([0], [0]), ([1, 1], [1]), ([2, 2], [2]), ([], []), ([3, 4, 3], [3, 4]), ([5], [5]), ([6], [6]), ([6], [6]), ([7, 5, 0, 1, 2, 3, 4, 5, 6, 7], [7]), ([8, 9, 0, 1, 2, 3, 4, 5, 6, 7, 8, 9], [8])])
def laws_FnDayNames.B6 : List Nat := [0, 1, 3, 7, 0, 31, 63, 127, 127, 255, 1023]
theorem laws_FnDayNames.tab6 : rtab .any (opsOf Tryz.f6 6) = laws_FnDayNames.T6 := by kernel_rfl
theorem laws_FnDayNames.bits6 : waitsOk laws_FnDayNames.T6.2 laws_FnDayNames.B6 = true := by kernel_rfl
set_option maxHeartbeats 8000000 in
set_option maxRecDepth 100000 in
theorem laws_FnDayNames.calls (k : Nat) (a0 : Int) (a1_0 : Int) (a1_1 : Int) (a1_2 : Int) (a1_3 : Int) (a1_4 : Int) (a1_5 : Int) (r : Bool) (w : World) (h : laws_FnDayNames.f k a0 a1_0 a1_1 a1_2 a1_3 a1_4 a1_5 = some r) :
    Calls Tryz.prog 6 #[.int .i64 a0, .agg #[.int .i64 a1_0, .int .i64 a1_1, .int .i64 a1_2, .int .i64 a1_3, .int .i64 a1_4, .int .i64 a1_5]] w fun e w' => e = .returned (.bool r) ∧ Below w.heap.size w w' := by
  have hu23 := Tryz.underlying23
  have HB := Aside0.mk (Below.refl w.heap.size w)
  have H : (if a0 < 0 then (laws_FnDayNames.j0 k a0 true a1_0 a1_1 a1_2 a1_3 a1_4 a1_5) else (if a0 > 6 then (laws_FnDayNames.j0 k a0 true a1_0 a1_1 a1_2 a1_3 a1_4 a1_5) else ((laws_moment.f a1_0 a1_1 a1_2 a1_3 a1_4 a1_5).bind fun bt291 => ((spec_MomentGood.f bt291.1 bt291.2.1 bt291.2.2.1 bt291.2.2.2.1 bt291.2.2.2.2.1 bt291.2.2.2.2.2).bind fun t297 => (laws_FnDayNames.j0 k a0 (!t297) a1_0 a1_1 a1_2 a1_3 a1_4 a1_5))))) = some r := h
  clear h
  have HC3 := Aside0.mk H
  clear H
  go_enter Tryz.func6, Tryz.ntmps6
  go_upto_region 1 with (first | ((with_reducible refine gate_dst (N := 3) rfl ?_); refine box_event ?hg (N := 3) ?hd (cs := #[.int .i64 a1_0, .int .i64 a1_1, .int .i64 a1_2, .int .i64 a1_3, .int .i64 a1_4, .int .i64 a1_5]) (t := 23) ?hr ?_; (case hd => rfl); (case hg => rfl); (case hr => first | (go_simp; done) | (go_simp; rfl)); intro gb290 hg w4 hbox hb; have n0_ := Aside0.mk (below_step (by repeat (first | (with_reducible first | exact HB.out | apply below_alloc | apply pw_below_drewN | apply below_drew1) | exact HB.out)) hb); have n1_ := Aside0.mk (hbox); have n2_ := Aside0.mk ((by rw [hg]; exact (below_size (by repeat (first | (with_reducible first | exact HB.out | apply below_alloc | apply pw_below_drewN | apply below_drew1) | exact HB.out))) : w.heap.size ≤ gb290)); have n3_ := Aside0.mk ((by rw [hg]; exact (below_size (by repeat (first | (with_reducible first | exact HB.out | apply below_alloc | apply pw_below_drewN | apply below_drew1) | exact HB.out))) : w.heap.size ≤ gb290)); clear HB; have HB := n0_; have BK290 := n1_; have GW290 := n2_; have GE290 := n3_; clear n0_ n1_ n2_ n3_; clear hb hbox hg))
  (try simp only [Act.put, List.setIfInBounds_toArray, List.set_cons_zero, List.set_cons_succ])
  go_cut [22] (fun v22 wc => ∃ (kq : Nat) (x22_2 : Bool), v22 = .bool x22_2 ∧ Aside0 (laws_FnDayNames.j0 kq a0 x22_2 a1_0 a1_1 a1_2 a1_3 a1_4 a1_5 = some r) ∧ Aside0 (kq ≤ k) ∧ Aside0 (wc.heap[gb290]? = some (.cells #[.int .i64 a1_0, .int .i64 a1_1, .int .i64 a1_2, .int .i64 a1_3, .int .i64 a1_4, .int .i64 a1_5] 23 (0, 0))) ∧ Aside0 (Below w.heap.size w wc))
  case first =>
    have H := HC3.out
    clear HC3
    by_cases c5 : a0 < 0
    · rw [if_pos c5] at H
      have c5b0 : decide (a0 < 0) = true := decide_eq_true c5
      clear c5
      (first | rw [c5b0] | (simp only [i64_w, i32_w]; rw [c5b0]) | skip)
      have H' := Aside0.mk H
      clear H
      go_wp2
      go_meet
      case rel => exact ⟨_, (true), (by first | rfl | (simp; done) | (simp [*]; done)), H', ⟨by first | omega | exact Nat.le_refl _⟩, ⟨by (with_reducible repeat (first | refine blk_drewN ?_ _ | refine blk_drew ?_ | refine blk_alloc ?_ _)); exact BK290.out⟩, ⟨by repeat (first | (with_reducible first | exact HB.out | apply below_alloc | apply pw_below_drewN | apply below_drew1 | refine below_set ?_ GE290.out) | exact HB.out)⟩⟩
    · rw [if_neg c5] at H
      have c5b0 : decide (a0 < 0) = false := decide_eq_false c5
      clear c5
      (first | rw [c5b0] | (simp only [i64_w, i32_w]; rw [c5b0]) | skip)
      by_cases c6 : a0 > 6
      · rw [if_pos c6] at H
        have c6b0 : decide (6 < a0) = true := decide_eq_true c6
        clear c6
        have H' := Aside0.mk H
        clear H
        go_wp2
        go_meet
        case rel => exact ⟨_, (true), (by first | rfl | (simp; done) | (simp [*]; done)), H', ⟨by first | omega | exact Nat.le_refl _⟩, ⟨by (with_reducible repeat (first | refine blk_drewN ?_ _ | refine blk_drew ?_ | refine blk_alloc ?_ _)); exact BK290.out⟩, ⟨by repeat (first | (with_reducible first | exact HB.out | apply below_alloc | apply pw_below_drewN | apply below_drew1 | refine below_set ?_ GE290.out) | exact HB.out)⟩⟩
      · rw [if_neg c6] at H
        have c6b0 : decide (6 < a0) = false := decide_eq_false c6
        clear c6
        replace H := Option.bind_eq_some_iff.mp H
        obtain ⟨⟨t291, t292, t293, t294, t295, t296⟩, A70, H⟩ := H
        replace H : ((spec_MomentGood.f t291 t292 t293 t294 t295 t296).bind fun t297 => (laws_FnDayNames.j0 k a0 (!t297) a1_0 a1_1 a1_2 a1_3 a1_4 a1_5)) = some r := H
        have A7 := Aside0.mk A70
        clear A70
        replace H := Option.bind_eq_some_iff.mp H
        obtain ⟨t297, A80, H⟩ := H
        replace H : (laws_FnDayNames.j0 k a0 (!t297) a1_0 a1_1 a1_2 a1_3 a1_4 a1_5) = some r := H
        have A8 := Aside0.mk A80
        clear A80
        have H' := Aside0.mk H
        clear H
        have hcz9_0 : w4.cell? ⟨gb290, 0, none⟩ = some (.int .i64 a1_0) := (blk_cell BK290.out 0).trans rfl
        have hcz9_1 : w4.cell? ⟨gb290, 1, none⟩ = some (.int .i64 a1_1) := (blk_cell BK290.out 1).trans rfl
        have hcz9_2 : w4.cell? ⟨gb290, 2, none⟩ = some (.int .i64 a1_2) := (blk_cell BK290.out 2).trans rfl
        have hcz9_3 : w4.cell? ⟨gb290, 3, none⟩ = some (.int .i64 a1_3) := (blk_cell BK290.out 3).trans rfl
        have hcz9_4 : w4.cell? ⟨gb290, 4, none⟩ = some (.int .i64 a1_4) := (blk_cell BK290.out 4).trans rfl
        have hcz9_5 : w4.cell? ⟨gb290, 5, none⟩ = some (.int .i64 a1_5) := (blk_cell BK290.out 5).trans rfl
        have hfz9_0 := blk_frozen BK290.out 0
        have hfz9_1 := blk_frozen BK290.out 1
        have hfz9_2 := blk_frozen BK290.out 2
        have hfz9_3 := blk_frozen BK290.out 3
        have hfz9_4 := blk_frozen BK290.out 4
        have hfz9_5 := blk_frozen BK290.out 5
        go_wp2_with (first | (go_at_call 13; (with_reducible refine (laws_moment.calls a1_0 a1_1 a1_2 a1_3 a1_4 a1_5 t291 t292 t293 t294 t295 t296 _ A7.out).mono ?_); rintro e w10 ⟨rfl, hb⟩; have n0_ := Aside0.mk (blk_below (g := gb290) (o := .cells #[.int .i64 a1_0, .int .i64 a1_1, .int .i64 a1_2, .int .i64 a1_3, .int .i64 a1_4, .int .i64 a1_5] 23 (0, 0)) (by (with_reducible repeat (first | refine blk_drewN ?_ _ | refine blk_drew ?_ | refine blk_alloc ?_ _)); exact BK290.out) hb); have n1_ := Aside0.mk (below_step (by repeat (first | (with_reducible first | exact HB.out | apply below_alloc | apply pw_below_drewN | apply below_drew1 | refine below_set ?_ GE290.out) | exact HB.out)) hb); clear BK290; clear HB; have BK290 := n0_; have HB := n1_; clear n0_ n1_; (try clear hb); (try clear hb2); (try clear hk); (try clear hi)) | (go_at_call 12; (with_reducible refine (spec_MomentGood.calls t291 t292 t293 t294 t295 t296 t297 _ A8.out).mono ?_); rintro e w11 ⟨rfl, hb⟩; have n0_ := Aside0.mk (blk_below (g := gb290) (o := .cells #[.int .i64 a1_0, .int .i64 a1_1, .int .i64 a1_2, .int .i64 a1_3, .int .i64 a1_4, .int .i64 a1_5] 23 (0, 0)) (by (with_reducible repeat (first | refine blk_drewN ?_ _ | refine blk_drew ?_ | refine blk_alloc ?_ _)); exact BK290.out) hb); have n1_ := Aside0.mk (below_step (by repeat (first | (with_reducible first | exact HB.out | apply below_alloc | apply pw_below_drewN | apply below_drew1 | refine below_set ?_ GE290.out) | exact HB.out)) hb); clear BK290; clear HB; have BK290 := n0_; have HB := n1_; clear n0_ n1_; (try clear hb); (try clear hb2); (try clear hk); (try clear hi)))
        go_meet
        case rel => exact ⟨_, (!t297), (by first | rfl | (simp; done) | (simp [*]; done)), H', ⟨by first | omega | exact Nat.le_refl _⟩, ⟨by (with_reducible repeat (first | refine blk_drewN ?_ _ | refine blk_drew ?_ | refine blk_alloc ?_ _)); exact BK290.out⟩, ⟨by repeat (first | (with_reducible first | exact HB.out | apply below_alloc | apply pw_below_drewN | apply below_drew1 | refine below_set ?_ GE290.out) | exact HB.out)⟩⟩
  case rest =>
    clear HC3
    try clear p2
    try clear c5
    try clear c5b0
    try clear c6
    try clear c6b0
    try clear hcz9_0
    try clear hcz9_1
    try clear hcz9_2
    try clear hcz9_3
    try clear hcz9_4
    try clear hcz9_5
    try clear hfz9_0
    try clear hfz9_1
    try clear hfz9_2
    try clear hfz9_3
    try clear hfz9_4
    try clear hfz9_5
    obtain ⟨kq, x22_2, rfl, HA, HJ2, BK290, HB⟩ := hcut
    cases kq with
    | zero => exact absurd HA.out (by simp [laws_FnDayNames.j0])
    | succ kj2 =>
      have H := HA.out
      clear HA
      simp only [laws_FnDayNames.j0] at H
      by_cases c12 : x22_2 = true
      · subst c12
        have H1 : (some true) = some r := by rw [if_pos rfl] at H; exact H
        clear H
        have H := H1
        clear H1
        obtain rfl := Option.some.inj H
        go_wp2
        go_ret
        exact ⟨by first | rfl | (simp [errW_none, errW_some] <;> rfl) | (simp [*, errW_none, errW_some] <;> rfl), by repeat (first | (with_reducible first | exact HB.out | apply below_alloc | apply pw_below_drewN | apply below_drew1 | refine below_set ?_ GE290.out) | exact HB.out)⟩
      · replace c12 := Bool.eq_false_iff.mpr c12
        subst c12
        have H1 : ((spec_Decimal.f kj2 a0).bind fun t298 => ((laws_stars.f kj2 5 t298).bind fun t299 => ((impl_Due.f t299 a1_0 a1_1 a1_2 0 0 0).bind fun bt300 => ((spec_DayName.f a0).bind fun t302 => ((laws_stars.f kj2 5 t302).bind fun t303 => ((impl_Due.f t303 a1_0 a1_1 a1_2 0 0 0).bind fun bt304 => ((spec_DayName.f a0).bind fun t306 => ((spec_Lower.f t306).bind fun t307 => ((laws_stars.f kj2 5 t307).bind fun t308 => ((impl_Due.f t308 a1_0 a1_1 a1_2 0 0 0).bind fun bt309 => (if bt300.2 = true then (if bt304.2 = true then (if bt309.2 = true then ((laws_moment.f a1_0 a1_1 a1_2 0 0 0).bind fun bt311 => ((laws_numbers.f kj2 bt311.1 bt311.2.1 bt311.2.2.1 bt311.2.2.2.1 bt311.2.2.2.2.1 bt311.2.2.2.2.2).bind fun bt317 => (if (bt300.1 == (bt317.2.2.2.2.2 == a0)) = true then (if (bt304.1 == bt300.1) = true then (some (bt309.1 == bt300.1)) else (some false)) else (some false)))) else (some false)) else (some false)) else (some false)))))))))))) = some r := by rw [if_neg (show ¬ (false = true) by decide)] at H; exact H
        clear H
        have H := H1
        clear H1
        replace H := Option.bind_eq_some_iff.mp H
        obtain ⟨t298, A130, H⟩ := H
        replace H : ((laws_stars.f kj2 5 t298).bind fun t299 => ((impl_Due.f t299 a1_0 a1_1 a1_2 0 0 0).bind fun bt300 => ((spec_DayName.f a0).bind fun t302 => ((laws_stars.f kj2 5 t302).bind fun t303 => ((impl_Due.f t303 a1_0 a1_1 a1_2 0 0 0).bind fun bt304 => ((spec_DayName.f a0).bind fun t306 => ((spec_Lower.f t306).bind fun t307 => ((laws_stars.f kj2 5 t307).bind fun t308 => ((impl_Due.f t308 a1_0 a1_1 a1_2 0 0 0).bind fun bt309 => (if bt300.2 = true then (if bt304.2 = true then (if bt309.2 = true then ((laws_moment.f a1_0 a1_1 a1_2 0 0 0).bind fun bt311 => ((laws_numbers.f kj2 bt311.1 bt311.2.1 bt311.2.2.1 bt311.2.2.2.1 bt311.2.2.2.2.1 bt311.2.2.2.2.2).bind fun bt317 => (if (bt300.1 == (bt317.2.2.2.2.2 == a0)) = true then (if (bt304.1 == bt300.1) = true then (some (bt309.1 == bt300.1)) else (some false)) else (some false)))) else (some false)) else (some false)) else (some false))))))))))) = some r := H
        have A13 := Aside0.mk A130
        clear A130
        replace H := Option.bind_eq_some_iff.mp H
        obtain ⟨t299, A140, H⟩ := H
        replace H : ((impl_Due.f t299 a1_0 a1_1 a1_2 0 0 0).bind fun bt300 => ((spec_DayName.f a0).bind fun t302 => ((laws_stars.f kj2 5 t302).bind fun t303 => ((impl_Due.f t303 a1_0 a1_1 a1_2 0 0 0).bind fun bt304 => ((spec_DayName.f a0).bind fun t306 => ((spec_Lower.f t306).bind fun t307 => ((laws_stars.f kj2 5 t307).bind fun t308 => ((impl_Due.f t308 a1_0 a1_1 a1_2 0 0 0).bind fun bt309 => (if bt300.2 = true then (if bt304.2 = true then (if bt309.2 = true then ((laws_moment.f a1_0 a1_1 a1_2 0 0 0).bind fun bt311 => ((laws_numbers.f kj2 bt311.1 bt311.2.1 bt311.2.2.1 bt311.2.2.2.1 bt311.2.2.2.2.1 bt311.2.2.2.2.2).bind fun bt317 => (if (bt300.1 == (bt317.2.2.2.2.2 == a0)) = true then (if (bt304.1 == bt300.1) = true then (some (bt309.1 == bt300.1)) else (some false)) else (some false)))) else (some false)) else (some false)) else (some false)))))))))) = some r := H
        have A14 := Aside0.mk A140
        clear A140
        replace H := Option.bind_eq_some_iff.mp H
        obtain ⟨⟨t300, t301⟩, A150, H⟩ := H
        replace H : ((spec_DayName.f a0).bind fun t302 => ((laws_stars.f kj2 5 t302).bind fun t303 => ((impl_Due.f t303 a1_0 a1_1 a1_2 0 0 0).bind fun bt304 => ((spec_DayName.f a0).bind fun t306 => ((spec_Lower.f t306).bind fun t307 => ((laws_stars.f kj2 5 t307).bind fun t308 => ((impl_Due.f t308 a1_0 a1_1 a1_2 0 0 0).bind fun bt309 => (if t301 = true then (if bt304.2 = true then (if bt309.2 = true then ((laws_moment.f a1_0 a1_1 a1_2 0 0 0).bind fun bt311 => ((laws_numbers.f kj2 bt311.1 bt311.2.1 bt311.2.2.1 bt311.2.2.2.1 bt311.2.2.2.2.1 bt311.2.2.2.2.2).bind fun bt317 => (if (t300 == (bt317.2.2.2.2.2 == a0)) = true then (if (bt304.1 == t300) = true then (some (bt309.1 == t300)) else (some false)) else (some false)))) else (some false)) else (some false)) else (some false))))))))) = some r := H
        have A15 := Aside0.mk A150
        clear A150
        replace H := Option.bind_eq_some_iff.mp H
        obtain ⟨t302, A160, H⟩ := H
        replace H : ((laws_stars.f kj2 5 t302).bind fun t303 => ((impl_Due.f t303 a1_0 a1_1 a1_2 0 0 0).bind fun bt304 => ((spec_DayName.f a0).bind fun t306 => ((spec_Lower.f t306).bind fun t307 => ((laws_stars.f kj2 5 t307).bind fun t308 => ((impl_Due.f t308 a1_0 a1_1 a1_2 0 0 0).bind fun bt309 => (if t301 = true then (if bt304.2 = true then (if bt309.2 = true then ((laws_moment.f a1_0 a1_1 a1_2 0 0 0).bind fun bt311 => ((laws_numbers.f kj2 bt311.1 bt311.2.1 bt311.2.2.1 bt311.2.2.2.1 bt311.2.2.2.2.1 bt311.2.2.2.2.2).bind fun bt317 => (if (t300 == (bt317.2.2.2.2.2 == a0)) = true then (if (bt304.1 == t300) = true then (some (bt309.1 == t300)) else (some false)) else (some false)))) else (some false)) else (some false)) else (some false)))))))) = some r := H
        have A16 := Aside0.mk A160
        clear A160
        replace H := Option.bind_eq_some_iff.mp H
        obtain ⟨t303, A170, H⟩ := H
        replace H : ((impl_Due.f t303 a1_0 a1_1 a1_2 0 0 0).bind fun bt304 => ((spec_DayName.f a0).bind fun t306 => ((spec_Lower.f t306).bind fun t307 => ((laws_stars.f kj2 5 t307).bind fun t308 => ((impl_Due.f t308 a1_0 a1_1 a1_2 0 0 0).bind fun bt309 => (if t301 = true then (if bt304.2 = true then (if bt309.2 = true then ((laws_moment.f a1_0 a1_1 a1_2 0 0 0).bind fun bt311 => ((laws_numbers.f kj2 bt311.1 bt311.2.1 bt311.2.2.1 bt311.2.2.2.1 bt311.2.2.2.2.1 bt311.2.2.2.2.2).bind fun bt317 => (if (t300 == (bt317.2.2.2.2.2 == a0)) = true then (if (bt304.1 == t300) = true then (some (bt309.1 == t300)) else (some false)) else (some false)))) else (some false)) else (some false)) else (some false))))))) = some r := H
        have A17 := Aside0.mk A170
        clear A170
        replace H := Option.bind_eq_some_iff.mp H
        obtain ⟨⟨t304, t305⟩, A180, H⟩ := H
        replace H : ((spec_DayName.f a0).bind fun t306 => ((spec_Lower.f t306).bind fun t307 => ((laws_stars.f kj2 5 t307).bind fun t308 => ((impl_Due.f t308 a1_0 a1_1 a1_2 0 0 0).bind fun bt309 => (if t301 = true then (if t305 = true then (if bt309.2 = true then ((laws_moment.f a1_0 a1_1 a1_2 0 0 0).bind fun bt311 => ((laws_numbers.f kj2 bt311.1 bt311.2.1 bt311.2.2.1 bt311.2.2.2.1 bt311.2.2.2.2.1 bt311.2.2.2.2.2).bind fun bt317 => (if (t300 == (bt317.2.2.2.2.2 == a0)) = true then (if (t304 == t300) = true then (some (bt309.1 == t300)) else (some false)) else (some false)))) else (some false)) else (some false)) else (some false)))))) = some r := H
        have A18 := Aside0.mk A180
        clear A180
        replace H := Option.bind_eq_some_iff.mp H
        obtain ⟨t306, A190, H⟩ := H
        replace H : ((spec_Lower.f t306).bind fun t307 => ((laws_stars.f kj2 5 t307).bind fun t308 => ((impl_Due.f t308 a1_0 a1_1 a1_2 0 0 0).bind fun bt309 => (if t301 = true then (if t305 = true then (if bt309.2 = true then ((laws_moment.f a1_0 a1_1 a1_2 0 0 0).bind fun bt311 => ((laws_numbers.f kj2 bt311.1 bt311.2.1 bt311.2.2.1 bt311.2.2.2.1 bt311.2.2.2.2.1 bt311.2.2.2.2.2).bind fun bt317 => (if (t300 == (bt317.2.2.2.2.2 == a0)) = true then (if (t304 == t300) = true then (some (bt309.1 == t300)) else (some false)) else (some false)))) else (some false)) else (some false)) else (some false))))) = some r := H
        have A19 := Aside0.mk A190
        clear A190
        replace H := Option.bind_eq_some_iff.mp H
        obtain ⟨t307, A200, H⟩ := H
        replace H : ((laws_stars.f kj2 5 t307).bind fun t308 => ((impl_Due.f t308 a1_0 a1_1 a1_2 0 0 0).bind fun bt309 => (if t301 = true then (if t305 = true then (if bt309.2 = true then ((laws_moment.f a1_0 a1_1 a1_2 0 0 0).bind fun bt311 => ((laws_numbers.f kj2 bt311.1 bt311.2.1 bt311.2.2.1 bt311.2.2.2.1 bt311.2.2.2.2.1 bt311.2.2.2.2.2).bind fun bt317 => (if (t300 == (bt317.2.2.2.2.2 == a0)) = true then (if (t304 == t300) = true then (some (bt309.1 == t300)) else (some false)) else (some false)))) else (some false)) else (some false)) else (some false)))) = some r := H
        have A20 := Aside0.mk A200
        clear A200
        replace H := Option.bind_eq_some_iff.mp H
        obtain ⟨t308, A210, H⟩ := H
        replace H : ((impl_Due.f t308 a1_0 a1_1 a1_2 0 0 0).bind fun bt309 => (if t301 = true then (if t305 = true then (if bt309.2 = true then ((laws_moment.f a1_0 a1_1 a1_2 0 0 0).bind fun bt311 => ((laws_numbers.f kj2 bt311.1 bt311.2.1 bt311.2.2.1 bt311.2.2.2.1 bt311.2.2.2.2.1 bt311.2.2.2.2.2).bind fun bt317 => (if (t300 == (bt317.2.2.2.2.2 == a0)) = true then (if (t304 == t300) = true then (some (bt309.1 == t300)) else (some false)) else (some false)))) else (some false)) else (some false)) else (some false))) = some r := H
        have A21 := Aside0.mk A210
        clear A210
        replace H := Option.bind_eq_some_iff.mp H
        obtain ⟨⟨t309, t310⟩, A220, H⟩ := H
        replace H : (if t301 = true then (if t305 = true then (if t310 = true then ((laws_moment.f a1_0 a1_1 a1_2 0 0 0).bind fun bt311 => ((laws_numbers.f kj2 bt311.1 bt311.2.1 bt311.2.2.1 bt311.2.2.2.1 bt311.2.2.2.2.1 bt311.2.2.2.2.2).bind fun bt317 => (if (t300 == (bt317.2.2.2.2.2 == a0)) = true then (if (t304 == t300) = true then (some (t309 == t300)) else (some false)) else (some false)))) else (some false)) else (some false)) else (some false)) = some r := H
        have A22 := Aside0.mk A220
        clear A220
        by_cases c23 : t301 = true
        · subst c23
          have H1 : (if t305 = true then (if t310 = true then ((laws_moment.f a1_0 a1_1 a1_2 0 0 0).bind fun bt311 => ((laws_numbers.f kj2 bt311.1 bt311.2.1 bt311.2.2.1 bt311.2.2.2.1 bt311.2.2.2.2.1 bt311.2.2.2.2.2).bind fun bt317 => (if (t300 == (bt317.2.2.2.2.2 == a0)) = true then (if (t304 == t300) = true then (some (t309 == t300)) else (some false)) else (some false)))) else (some false)) else (some false)) = some r := by rw [if_pos rfl] at H; exact H
          clear H
          have H := H1
          clear H1
          by_cases c24 : t305 = true
          · subst c24
            have H1 : (if t310 = true then ((laws_moment.f a1_0 a1_1 a1_2 0 0 0).bind fun bt311 => ((laws_numbers.f kj2 bt311.1 bt311.2.1 bt311.2.2.1 bt311.2.2.2.1 bt311.2.2.2.2.1 bt311.2.2.2.2.2).bind fun bt317 => (if (t300 == (bt317.2.2.2.2.2 == a0)) = true then (if (t304 == t300) = true then (some (t309 == t300)) else (some false)) else (some false)))) else (some false)) = some r := by rw [if_pos rfl] at H; exact H
            clear H
            have H := H1
            clear H1
            by_cases c25 : t310 = true
            · subst c25
              have H1 : ((laws_moment.f a1_0 a1_1 a1_2 0 0 0).bind fun bt311 => ((laws_numbers.f kj2 bt311.1 bt311.2.1 bt311.2.2.1 bt311.2.2.2.1 bt311.2.2.2.2.1 bt311.2.2.2.2.2).bind fun bt317 => (if (t300 == (bt317.2.2.2.2.2 == a0)) = true then (if (t304 == t300) = true then (some (t309 == t300)) else (some false)) else (some false)))) = some r := by rw [if_pos rfl] at H; exact H
              clear H
              have H := H1
              clear H1
              replace H := Option.bind_eq_some_iff.mp H
              obtain ⟨⟨t311, t312, t313, t314, t315, t316⟩, A260, H⟩ := H
              replace H : ((laws_numbers.f kj2 t311 t312 t313 t314 t315 t316).bind fun bt317 => (if (t300 == (bt317.2.2.2.2.2 == a0)) = true then (if (t304 == t300) = true then (some (t309 == t300)) else (some false)) else (some false))) = some r := H
              have A26 := Aside0.mk A260
              clear A260
              replace H := Option.bind_eq_some_iff.mp H
              obtain ⟨⟨t317, t318, t319, t320, t321, t322⟩, A270, H⟩ := H
              replace H : (if (t300 == (t322 == a0)) = true then (if (t304 == t300) = true then (some (t309 == t300)) else (some false)) else (some false)) = some r := H
              have A27 := Aside0.mk A270
              clear A270
              have hixz323_ : ∀ w_ : World, (Instr.index 50 (.agg #[.int .i64 t317, .int .i64 t318, .int .i64 t319, .int .i64 t320, .int .i64 t321, .int .i64 t322]) (.int .i64 5)).run Tryz.prog w_ = .ok (.int .i64 t322) w_ := fun _ => rfl
              by_cases c28 : (t300 == (t322 == a0)) = true
              · rw [if_pos c28] at H
                have c28b0 : (t300 == (t322 == a0)) = true := c28
                (try (have c28b1 : decide (t300 = (t322 == a0)) = true := by simpa using c28))
                (try (have c28b2 : (t300 == (t322 == a0)) = true := by simpa using c28))
                clear c28
                by_cases c29 : (t304 == t300) = true
                · rw [if_pos c29] at H
                  have c29b0 : (t304 == t300) = true := c29
                  (try (have c29b1 : decide (t304 = t300) = true := by simpa using c29))
                  (try (have c29b2 : (t304 == t300) = true := by simpa using c29))
                  clear c29
                  obtain rfl := Option.some.inj H
                  have hcz30_0 : wc.cell? ⟨gb290, 0, none⟩ = some (.int .i64 a1_0) := (blk_cell BK290.out 0).trans rfl
                  have hcz30_1 : wc.cell? ⟨gb290, 1, none⟩ = some (.int .i64 a1_1) := (blk_cell BK290.out 1).trans rfl
                  have hcz30_2 : wc.cell? ⟨gb290, 2, none⟩ = some (.int .i64 a1_2) := (blk_cell BK290.out 2).trans rfl
                  have hcz30_3 : wc.cell? ⟨gb290, 3, none⟩ = some (.int .i64 a1_3) := (blk_cell BK290.out 3).trans rfl
                  have hcz30_4 : wc.cell? ⟨gb290, 4, none⟩ = some (.int .i64 a1_4) := (blk_cell BK290.out 4).trans rfl
                  have hcz30_5 : wc.cell? ⟨gb290, 5, none⟩ = some (.int .i64 a1_5) := (blk_cell BK290.out 5).trans rfl
                  have hfz30_0 := blk_frozen BK290.out 0
                  have hfz30_1 := blk_frozen BK290.out 1
                  have hfz30_2 := blk_frozen BK290.out 2
                  have hfz30_3 := blk_frozen BK290.out 3
                  have hfz30_4 := blk_frozen BK290.out 4
                  have hfz30_5 := blk_frozen BK290.out 5
                  try go_wp2
                  have n0_ : Aside0 ((((wc.setCell ⟨gb290, 3, none⟩ (.int .i64 0)).setCell ⟨gb290, 4, none⟩ (.int .i64 0)).setCell ⟨gb290, 5, none⟩ (.int .i64 0)).heap[gb290]? = some (.cells #[.int .i64 a1_0, .int .i64 a1_1, .int .i64 a1_2, .int .i64 0, .int .i64 0, .int .i64 0] 23 (0, 0))) := ⟨by (with_reducible repeat (first | refine blk_drewN ?_ _ | refine blk_drew ?_ | refine blk_alloc ?_ _)); refine blk_put (cs := #[.int .i64 a1_0, .int .i64 a1_1, .int .i64 a1_2, .int .i64 0, .int .i64 0, .int .i64 a1_5]) ?_ 5 _ rfl; (with_reducible repeat (first | refine blk_drewN ?_ _ | refine blk_drew ?_ | refine blk_alloc ?_ _)); refine blk_put (cs := #[.int .i64 a1_0, .int .i64 a1_1, .int .i64 a1_2, .int .i64 0, .int .i64 a1_4, .int .i64 a1_5]) ?_ 4 _ rfl; (with_reducible repeat (first | refine blk_drewN ?_ _ | refine blk_drew ?_ | refine blk_alloc ?_ _)); refine blk_put (cs := #[.int .i64 a1_0, .int .i64 a1_1, .int .i64 a1_2, .int .i64 a1_3, .int .i64 a1_4, .int .i64 a1_5]) ?_ 3 _ rfl; (with_reducible repeat (first | refine blk_drewN ?_ _ | refine blk_drew ?_ | refine blk_alloc ?_ _)); exact BK290.out⟩
                  have n1_ : Aside0 (Below w.heap.size w (((wc.setCell ⟨gb290, 3, none⟩ (.int .i64 0)).setCell ⟨gb290, 4, none⟩ (.int .i64 0)).setCell ⟨gb290, 5, none⟩ (.int .i64 0))) := ⟨by repeat (first | (with_reducible first | exact HB.out | apply below_alloc | apply pw_below_drewN | apply below_drew1 | refine below_set ?_ GE290.out) | exact HB.out)⟩
                  (try clear BK290)
                  (try clear HB)
                  generalize (((wc.setCell ⟨gb290, 3, none⟩ (.int .i64 0)).setCell ⟨gb290, 4, none⟩ (.int .i64 0)).setCell ⟨gb290, 5, none⟩ (.int .i64 0)) = w31 at n0_ n1_ ⊢
                  have BK290 := n0_
                  have HB := n1_
                  clear n0_ n1_
                  have n0_ := Aside0.mk (blk_drew BK290.out)
                  have n1_ := Aside0.mk (below_drew1 HB.out)
                  clear BK290
                  clear HB
                  have BK290 := n0_
                  have HB := n1_
                  clear n0_ n1_
                  refine start_ (n := 10) (S := fun w' => w'.cell? ⟨gb290, 0, none⟩ = some (.int .i64 a1_0) ∧ w'.cell? ⟨gb290, 1, none⟩ = some (.int .i64 a1_1) ∧ w'.cell? ⟨gb290, 2, none⟩ = some (.int .i64 a1_2) ∧ w'.cell? ⟨gb290, 3, none⟩ = some (.int .i64 0) ∧ w'.cell? ⟨gb290, 4, none⟩ = some (.int .i64 0) ∧ w'.cell? ⟨gb290, 5, none⟩ = some (.int .i64 0)) (ds := []) #[false, false, false, false, false, false, false, false, false, false] (by kernel_rfl) rfl rfl ⟨(blk_cell BK290.out 0).trans rfl, (blk_cell BK290.out 1).trans rfl, (blk_cell BK290.out 2).trans rfl, (blk_cell BK290.out 3).trans rfl, (blk_cell BK290.out 4).trans rfl, (blk_cell BK290.out 5).trans rfl⟩ (fun hHeld => ?_); refine with_tabW laws_FnDayNames.tab4 laws_FnDayNames.bits4 (fun HT_ HW_ => ?_)
                  generalize w31.drew = w32 at BK290 HB hHeld ⊢
                  refine pure_ (i := 0) (N := some 27) (v := ?_) (a' := ?_) #[true, false, false, false, false, false, false, false, false, false] rfl rfl (any_of HT_.out (by kernel_rfl)) (fun _ _ _ h => h) (Or.inl ⟨by rfl, ?_⟩) ?_ ?_
                  rotate_left
                  · intro w'
                    go_simp
                    with_reducible rfl
                  rotate_left
                  · simp only [Act.put, List.setIfInBounds_toArray, List.set_cons_zero, List.set_cons_succ, i64_w, i32_w]
                    rfl
                  refine take_ (i := 3) (N := some 30) (v := ?_) (a' := ?_) #[true, false, false, true, false, false, false, false, false, false] rfl rfl (take_ofW HT_.out HW_.out (by kernel_rfl)) (fun _ _ _ h => h) (Or.inl ⟨by rfl, ?_⟩) hHeld ?_ ?_
                  rotate_left
                  · rintro w' ⟨s0, s1, s2, s3, s4, s5⟩
                    go_simp
                    with_reducible rfl
                  rotate_left
                  · simp only [Act.put, List.setIfInBounds_toArray, List.set_cons_zero, List.set_cons_succ, i64_w, i32_w]
                    rfl
                  refine one_ (i := 1) (N := some 28) #[true, true, false, true, false, false, false, false, false, false] rfl rfl (one_of HT_.out (by kernel_rfl)) (by decide) (fun K hK => ?_)
                  refine goes_ Tryz.func16 (by kernel_rfl) rfl #[.int .i64 a0] (by rfl) rfl rfl (by (try simp only [List.map_toArray, List.map_cons, List.map_nil]); first | done | rfl | (simp only [List.length_drop, List.length_take]; rfl)) ?_
                  with_reducible refine (spec_Decimal.calls kj2 a0 t298 _ A13.out).mono ?_
                  rintro e w' ⟨rfl, ⟨nd, rfl⟩⟩
                  refine ⟨_, rfl, ?_⟩
                  refine hK.out _ _ ⟨(blk_cell BK290.out 0).trans rfl, (blk_cell BK290.out 1).trans rfl, (blk_cell BK290.out 2).trans rfl, (blk_cell BK290.out 3).trans rfl, (blk_cell BK290.out 4).trans rfl, (blk_cell BK290.out 5).trans rfl⟩ (fun hHeld => ?_)
                  clear hK K
                  refine norm_ (a' := ?_) ?_ ?_
                  rotate_left
                  · show Act.put _ (some 28) _ = _
                    simp only [Act.put, List.setIfInBounds_toArray, List.set_cons_zero, List.set_cons_succ, i64_w, i32_w]
                    rfl
                  refine one_ (i := 2) (N := some 29) #[true, true, true, true, false, false, false, false, false, false] rfl rfl (one_of HT_.out (by kernel_rfl)) (by decide) (fun K hK => ?_)
                  refine goes_ Tryz.func15 (by kernel_rfl) rfl #[.int .i64 5, .string t298] (by rfl) rfl rfl (by (try simp only [List.map_toArray, List.map_cons, List.map_nil]); first | done | rfl | (simp only [List.length_drop, List.length_take]; rfl)) ?_
                  with_reducible refine (laws_stars.calls kj2 5 t298 t299 _ A14.out).mono ?_
                  rintro e w' ⟨rfl, ⟨nd, rfl⟩⟩
                  refine ⟨_, rfl, ?_⟩
                  refine hK.out _ _ ⟨(blk_cell BK290.out 0).trans rfl, (blk_cell BK290.out 1).trans rfl, (blk_cell BK290.out 2).trans rfl, (blk_cell BK290.out 3).trans rfl, (blk_cell BK290.out 4).trans rfl, (blk_cell BK290.out 5).trans rfl⟩ (fun hHeld => ?_)
                  clear hK K
                  refine norm_ (a' := ?_) ?_ ?_
                  rotate_left
                  · show Act.put _ (some 29) _ = _
                    simp only [Act.put, List.setIfInBounds_toArray, List.set_cons_zero, List.set_cons_succ, i64_w, i32_w]
                    rfl
                  refine one_ (i := 4) (N := some 31) #[true, true, true, true, true, false, false, false, false, false] rfl rfl (one_of HT_.out (by kernel_rfl)) (by decide) (fun K hK => ?_)
                  refine goes_ Tryz.func24 (by kernel_rfl) rfl #[.string t299, .agg #[.int .i64 a1_0, .int .i64 a1_1, .int .i64 a1_2, .int .i64 0, .int .i64 0, .int .i64 0]] (by rfl) rfl rfl (by (try simp only [List.map_toArray, List.map_cons, List.map_nil]); first | done | rfl | (simp only [List.length_drop, List.length_take]; rfl)) ?_
                  with_reducible refine (impl_Due.calls t299 a1_0 a1_1 a1_2 0 0 0 t300 true _ A15.out).mono ?_
                  rintro e w33 ⟨rfl, hb⟩
                  refine ⟨_, rfl, ?_⟩
                  have n0_ := Aside0.mk (blk_below (g := gb290) (o := .cells #[.int .i64 a1_0, .int .i64 a1_1, .int .i64 a1_2, .int .i64 0, .int .i64 0, .int .i64 0] 23 (0, 0)) (by (with_reducible repeat (first | refine blk_drewN ?_ _ | refine blk_drew ?_ | refine blk_alloc ?_ _)); exact BK290.out) hb)
                  have n1_ := Aside0.mk (below_step (by repeat (first | (with_reducible first | exact HB.out | apply below_alloc | apply pw_below_drewN | apply below_drew1 | refine below_set ?_ GE290.out) | exact HB.out)) hb)
                  clear BK290
                  clear HB
                  have BK290 := n0_
                  have HB := n1_
                  clear n0_ n1_
                  (try clear hb)
                  (try clear hb2)
                  (try clear hk)
                  (try clear hi)
                  refine hK.out _ _ ⟨(blk_cell BK290.out 0).trans rfl, (blk_cell BK290.out 1).trans rfl, (blk_cell BK290.out 2).trans rfl, (blk_cell BK290.out 3).trans rfl, (blk_cell BK290.out 4).trans rfl, (blk_cell BK290.out 5).trans rfl⟩ (fun hHeld => ?_)
                  clear hK K
                  refine norm_ (a' := ?_) ?_ ?_
                  rotate_left
                  · show Act.put _ (some 31) _ = _
                    simp only [Act.put, List.setIfInBounds_toArray, List.set_cons_zero, List.set_cons_succ, i64_w, i32_w]
                    rfl
                  refine pure_ (i := 5) (N := some 26) (v := ?_) (a' := ?_) #[true, true, true, true, true, true, false, false, false, false] rfl rfl (any_of HT_.out (by kernel_rfl)) (fun _ _ _ h => h) (Or.inl ⟨by rfl, ?_⟩) ?_ ?_
                  rotate_left
                  · intro w'
                    go_simp
                    with_reducible rfl
                  rotate_left
                  · simp only [Act.put, List.setIfInBounds_toArray, List.set_cons_zero, List.set_cons_succ, i64_w, i32_w]
                    rfl
                  refine pure_ (i := 6) (N := some 32) (v := ?_) (a' := ?_) #[true, true, true, true, true, true, true, false, false, false] rfl rfl (any_of HT_.out (by kernel_rfl)) (fun _ _ _ h => h) (Or.inl ⟨by rfl, ?_⟩) ?_ ?_
                  rotate_left
                  · intro w'
                    go_simp
                    with_reducible rfl
                  rotate_left
                  · simp only [Act.put, List.setIfInBounds_toArray, List.set_cons_zero, List.set_cons_succ, i64_w, i32_w]
                    rfl
                  refine pure_ (i := 7) (N := some 33) (v := ?_) (a' := ?_) #[true, true, true, true, true, true, true, true, false, false] rfl rfl (any_of HT_.out (by kernel_rfl)) (fun _ _ _ h => h) (Or.inl ⟨by rfl, ?_⟩) ?_ ?_
                  rotate_left
                  · intro w'
                    go_simp
                    with_reducible rfl
                  rotate_left
                  · simp only [Act.put, List.setIfInBounds_toArray, List.set_cons_zero, List.set_cons_succ, i64_w, i32_w]
                    rfl
                  refine pure_ (i := 8) (N := some 5) (v := ?_) (a' := ?_) #[true, true, true, true, true, true, true, true, true, false] rfl rfl (any_of HT_.out (by kernel_rfl)) (fun _ _ _ h => h) (Or.inl ⟨by rfl, ?_⟩) ?_ ?_
                  rotate_left
                  · intro w'
                    go_simp
                    with_reducible rfl
                  rotate_left
                  · simp only [Act.put, List.setIfInBounds_toArray, List.set_cons_zero, List.set_cons_succ, i64_w, i32_w]
                    rfl
                  refine pure_ (i := 9) (N := some 6) (v := ?_) (a' := ?_) #[true, true, true, true, true, true, true, true, true, true] rfl rfl (any_of HT_.out (by kernel_rfl)) (fun _ _ _ h => h) (Or.inl ⟨by rfl, ?_⟩) ?_ ?_
                  rotate_left
                  · intro w'
                    go_simp
                    with_reducible rfl
                  rotate_left
                  · simp only [Act.put, List.setIfInBounds_toArray, List.set_cons_zero, List.set_cons_succ, i64_w, i32_w]
                    rfl
                  refine done_ (done_of HT_.out (by kernel_rfl)) ?_
                  try go_wp2
                  have n0_ := Aside0.mk (blk_drew BK290.out)
                  have n1_ := Aside0.mk (below_drew1 HB.out)
                  clear BK290
                  clear HB
                  have BK290 := n0_
                  have HB := n1_
                  clear n0_ n1_
                  refine start_ (n := 10) (S := fun w' => w'.cell? ⟨gb290, 0, none⟩ = some (.int .i64 a1_0) ∧ w'.cell? ⟨gb290, 1, none⟩ = some (.int .i64 a1_1) ∧ w'.cell? ⟨gb290, 2, none⟩ = some (.int .i64 a1_2) ∧ w'.cell? ⟨gb290, 3, none⟩ = some (.int .i64 0) ∧ w'.cell? ⟨gb290, 4, none⟩ = some (.int .i64 0) ∧ w'.cell? ⟨gb290, 5, none⟩ = some (.int .i64 0)) (ds := []) #[false, false, false, false, false, false, false, false, false, false] (by kernel_rfl) rfl rfl ⟨(blk_cell BK290.out 0).trans rfl, (blk_cell BK290.out 1).trans rfl, (blk_cell BK290.out 2).trans rfl, (blk_cell BK290.out 3).trans rfl, (blk_cell BK290.out 4).trans rfl, (blk_cell BK290.out 5).trans rfl⟩ (fun hHeld => ?_); refine with_tabW laws_FnDayNames.tab5 laws_FnDayNames.bits5 (fun HT_ HW_ => ?_)
                  generalize w33.drew = w34 at BK290 HB hHeld ⊢
                  refine pure_ (i := 0) (N := some 35) (v := ?_) (a' := ?_) #[true, false, false, false, false, false, false, false, false, false] rfl rfl (any_of HT_.out (by kernel_rfl)) (fun _ _ _ h => h) (Or.inl ⟨by rfl, ?_⟩) ?_ ?_
                  rotate_left
                  · intro w'
                    go_simp
                    with_reducible rfl
                  rotate_left
                  · simp only [Act.put, List.setIfInBounds_toArray, List.set_cons_zero, List.set_cons_succ, i64_w, i32_w]
                    rfl
                  refine take_ (i := 3) (N := some 38) (v := ?_) (a' := ?_) #[true, false, false, true, false, false, false, false, false, false] rfl rfl (take_ofW HT_.out HW_.out (by kernel_rfl)) (fun _ _ _ h => h) (Or.inl ⟨by rfl, ?_⟩) hHeld ?_ ?_
                  rotate_left
                  · rintro w' ⟨s0, s1, s2, s3, s4, s5⟩
                    go_simp
                    with_reducible rfl
                  rotate_left
                  · simp only [Act.put, List.setIfInBounds_toArray, List.set_cons_zero, List.set_cons_succ, i64_w, i32_w]
                    rfl
                  refine one_ (i := 1) (N := some 36) #[true, true, false, true, false, false, false, false, false, false] rfl rfl (one_of HT_.out (by kernel_rfl)) (by decide) (fun K hK => ?_)
                  refine goes_ Tryz.func25 (by kernel_rfl) rfl #[.int .i64 a0] (by rfl) rfl rfl (by (try simp only [List.map_toArray, List.map_cons, List.map_nil]); first | done | rfl | (simp only [List.length_drop, List.length_take]; rfl)) ?_
                  with_reducible refine (spec_DayName.calls a0 t302 _ A16.out).mono ?_
                  rintro e w' ⟨rfl, ⟨nd, rfl⟩⟩
                  refine ⟨_, rfl, ?_⟩
                  refine hK.out _ _ ⟨(blk_cell BK290.out 0).trans rfl, (blk_cell BK290.out 1).trans rfl, (blk_cell BK290.out 2).trans rfl, (blk_cell BK290.out 3).trans rfl, (blk_cell BK290.out 4).trans rfl, (blk_cell BK290.out 5).trans rfl⟩ (fun hHeld => ?_)
                  clear hK K
                  refine norm_ (a' := ?_) ?_ ?_
                  rotate_left
                  · show Act.put _ (some 36) _ = _
                    simp only [Act.put, List.setIfInBounds_toArray, List.set_cons_zero, List.set_cons_succ, i64_w, i32_w]
                    rfl
                  refine one_ (i := 2) (N := some 37) #[true, true, true, true, false, false, false, false, false, false] rfl rfl (one_of HT_.out (by kernel_rfl)) (by decide) (fun K hK => ?_)
                  refine goes_ Tryz.func15 (by kernel_rfl) rfl #[.int .i64 5, .string t302] (by rfl) rfl rfl (by (try simp only [List.map_toArray, List.map_cons, List.map_nil]); first | done | rfl | (simp only [List.length_drop, List.length_take]; rfl)) ?_
                  with_reducible refine (laws_stars.calls kj2 5 t302 t303 _ A17.out).mono ?_
                  rintro e w' ⟨rfl, ⟨nd, rfl⟩⟩
                  refine ⟨_, rfl, ?_⟩
                  refine hK.out _ _ ⟨(blk_cell BK290.out 0).trans rfl, (blk_cell BK290.out 1).trans rfl, (blk_cell BK290.out 2).trans rfl, (blk_cell BK290.out 3).trans rfl, (blk_cell BK290.out 4).trans rfl, (blk_cell BK290.out 5).trans rfl⟩ (fun hHeld => ?_)
                  clear hK K
                  refine norm_ (a' := ?_) ?_ ?_
                  rotate_left
                  · show Act.put _ (some 37) _ = _
                    simp only [Act.put, List.setIfInBounds_toArray, List.set_cons_zero, List.set_cons_succ, i64_w, i32_w]
                    rfl
                  refine one_ (i := 4) (N := some 39) #[true, true, true, true, true, false, false, false, false, false] rfl rfl (one_of HT_.out (by kernel_rfl)) (by decide) (fun K hK => ?_)
                  refine goes_ Tryz.func24 (by kernel_rfl) rfl #[.string t303, .agg #[.int .i64 a1_0, .int .i64 a1_1, .int .i64 a1_2, .int .i64 0, .int .i64 0, .int .i64 0]] (by rfl) rfl rfl (by (try simp only [List.map_toArray, List.map_cons, List.map_nil]); first | done | rfl | (simp only [List.length_drop, List.length_take]; rfl)) ?_
                  with_reducible refine (impl_Due.calls t303 a1_0 a1_1 a1_2 0 0 0 t304 true _ A18.out).mono ?_
                  rintro e w35 ⟨rfl, hb⟩
                  refine ⟨_, rfl, ?_⟩
                  have n0_ := Aside0.mk (blk_below (g := gb290) (o := .cells #[.int .i64 a1_0, .int .i64 a1_1, .int .i64 a1_2, .int .i64 0, .int .i64 0, .int .i64 0] 23 (0, 0)) (by (with_reducible repeat (first | refine blk_drewN ?_ _ | refine blk_drew ?_ | refine blk_alloc ?_ _)); exact BK290.out) hb)
                  have n1_ := Aside0.mk (below_step (by repeat (first | (with_reducible first | exact HB.out | apply below_alloc | apply pw_below_drewN | apply below_drew1 | refine below_set ?_ GE290.out) | exact HB.out)) hb)
                  clear BK290
                  clear HB
                  have BK290 := n0_
                  have HB := n1_
                  clear n0_ n1_
                  (try clear hb)
                  (try clear hb2)
                  (try clear hk)
                  (try clear hi)
                  refine hK.out _ _ ⟨(blk_cell BK290.out 0).trans rfl, (blk_cell BK290.out 1).trans rfl, (blk_cell BK290.out 2).trans rfl, (blk_cell BK290.out 3).trans rfl, (blk_cell BK290.out 4).trans rfl, (blk_cell BK290.out 5).trans rfl⟩ (fun hHeld => ?_)
                  clear hK K
                  refine norm_ (a' := ?_) ?_ ?_
                  rotate_left
                  · show Act.put _ (some 39) _ = _
                    simp only [Act.put, List.setIfInBounds_toArray, List.set_cons_zero, List.set_cons_succ, i64_w, i32_w]
                    rfl
                  refine pure_ (i := 5) (N := some 34) (v := ?_) (a' := ?_) #[true, true, true, true, true, true, false, false, false, false] rfl rfl (any_of HT_.out (by kernel_rfl)) (fun _ _ _ h => h) (Or.inl ⟨by rfl, ?_⟩) ?_ ?_
                  rotate_left
                  · intro w'
                    go_simp
                    with_reducible rfl
                  rotate_left
                  · simp only [Act.put, List.setIfInBounds_toArray, List.set_cons_zero, List.set_cons_succ, i64_w, i32_w]
                    rfl
                  refine pure_ (i := 6) (N := some 40) (v := ?_) (a' := ?_) #[true, true, true, true, true, true, true, false, false, false] rfl rfl (any_of HT_.out (by kernel_rfl)) (fun _ _ _ h => h) (Or.inl ⟨by rfl, ?_⟩) ?_ ?_
                  rotate_left
                  · intro w'
                    go_simp
                    with_reducible rfl
                  rotate_left
                  · simp only [Act.put, List.setIfInBounds_toArray, List.set_cons_zero, List.set_cons_succ, i64_w, i32_w]
                    rfl
                  refine pure_ (i := 7) (N := some 41) (v := ?_) (a' := ?_) #[true, true, true, true, true, true, true, true, false, false] rfl rfl (any_of HT_.out (by kernel_rfl)) (fun _ _ _ h => h) (Or.inl ⟨by rfl, ?_⟩) ?_ ?_
                  rotate_left
                  · intro w'
                    go_simp
                    with_reducible rfl
                  rotate_left
                  · simp only [Act.put, List.setIfInBounds_toArray, List.set_cons_zero, List.set_cons_succ, i64_w, i32_w]
                    rfl
                  refine pure_ (i := 8) (N := some 7) (v := ?_) (a' := ?_) #[true, true, true, true, true, true, true, true, true, false] rfl rfl (any_of HT_.out (by kernel_rfl)) (fun _ _ _ h => h) (Or.inl ⟨by rfl, ?_⟩) ?_ ?_
                  rotate_left
                  · intro w'
                    go_simp
                    with_reducible rfl
                  rotate_left
                  · simp only [Act.put, List.setIfInBounds_toArray, List.set_cons_zero, List.set_cons_succ, i64_w, i32_w]
                    rfl
                  refine pure_ (i := 9) (N := some 8) (v := ?_) (a' := ?_) #[true, true, true, true, true, true, true, true, true, true] rfl rfl (any_of HT_.out (by kernel_rfl)) (fun _ _ _ h => h) (Or.inl ⟨by rfl, ?_⟩) ?_ ?_
                  rotate_left
                  · intro w'
                    go_simp
                    with_reducible rfl
                  rotate_left
                  · simp only [Act.put, List.setIfInBounds_toArray, List.set_cons_zero, List.set_cons_succ, i64_w, i32_w]
                    rfl
                  refine done_ (done_of HT_.out (by kernel_rfl)) ?_
                  try go_wp2
                  have n0_ := Aside0.mk (blk_drew BK290.out)
                  have n1_ := Aside0.mk (below_drew1 HB.out)
                  clear BK290
                  clear HB
                  have BK290 := n0_
                  have HB := n1_
                  clear n0_ n1_
                  refine start_ (n := 11) (S := fun w' => w'.cell? ⟨gb290, 0, none⟩ = some (.int .i64 a1_0) ∧ w'.cell? ⟨gb290, 1, none⟩ = some (.int .i64 a1_1) ∧ w'.cell? ⟨gb290, 2, none⟩ = some (.int .i64 a1_2) ∧ w'.cell? ⟨gb290, 3, none⟩ = some (.int .i64 0) ∧ w'.cell? ⟨gb290, 4, none⟩ = some (.int .i64 0) ∧ w'.cell? ⟨gb290, 5, none⟩ = some (.int .i64 0)) (ds := []) #[false, false, false, false, false, false, false, false, false, false, false] (by kernel_rfl) rfl rfl ⟨(blk_cell BK290.out 0).trans rfl, (blk_cell BK290.out 1).trans rfl, (blk_cell BK290.out 2).trans rfl, (blk_cell BK290.out 3).trans rfl, (blk_cell BK290.out 4).trans rfl, (blk_cell BK290.out 5).trans rfl⟩ (fun hHeld => ?_); refine with_tabW laws_FnDayNames.tab6 laws_FnDayNames.bits6 (fun HT_ HW_ => ?_)
                  generalize w35.drew = w36 at BK290 HB hHeld ⊢
                  refine pure_ (i := 0) (N := some 43) (v := ?_) (a' := ?_) #[true, false, false, false, false, false, false, false, false, false, false] rfl rfl (any_of HT_.out (by kernel_rfl)) (fun _ _ _ h => h) (Or.inl ⟨by rfl, ?_⟩) ?_ ?_
                  rotate_left
                  · intro w'
                    go_simp
                    with_reducible rfl
                  rotate_left
                  · simp only [Act.put, List.setIfInBounds_toArray, List.set_cons_zero, List.set_cons_succ, i64_w, i32_w]
                    rfl
                  refine take_ (i := 4) (N := some 47) (v := ?_) (a' := ?_) #[true, false, false, false, true, false, false, false, false, false, false] rfl rfl (take_ofW HT_.out HW_.out (by kernel_rfl)) (fun _ _ _ h => h) (Or.inl ⟨by rfl, ?_⟩) hHeld ?_ ?_
                  rotate_left
                  · rintro w' ⟨s0, s1, s2, s3, s4, s5⟩
                    go_simp
                    with_reducible rfl
                  rotate_left
                  · simp only [Act.put, List.setIfInBounds_toArray, List.set_cons_zero, List.set_cons_succ, i64_w, i32_w]
                    rfl
                  refine one_ (i := 1) (N := some 44) #[true, true, false, false, true, false, false, false, false, false, false] rfl rfl (one_of HT_.out (by kernel_rfl)) (by decide) (fun K hK => ?_)
                  refine goes_ Tryz.func25 (by kernel_rfl) rfl #[.int .i64 a0] (by rfl) rfl rfl (by (try simp only [List.map_toArray, List.map_cons, List.map_nil]); first | done | rfl | (simp only [List.length_drop, List.length_take]; rfl)) ?_
                  with_reducible refine (spec_DayName.calls a0 t306 _ A19.out).mono ?_
                  rintro e w' ⟨rfl, ⟨nd, rfl⟩⟩
                  refine ⟨_, rfl, ?_⟩
                  refine hK.out _ _ ⟨(blk_cell BK290.out 0).trans rfl, (blk_cell BK290.out 1).trans rfl, (blk_cell BK290.out 2).trans rfl, (blk_cell BK290.out 3).trans rfl, (blk_cell BK290.out 4).trans rfl, (blk_cell BK290.out 5).trans rfl⟩ (fun hHeld => ?_)
                  clear hK K
                  refine norm_ (a' := ?_) ?_ ?_
                  rotate_left
                  · show Act.put _ (some 44) _ = _
                    simp only [Act.put, List.setIfInBounds_toArray, List.set_cons_zero, List.set_cons_succ, i64_w, i32_w]
                    rfl
                  refine one_ (i := 2) (N := some 45) #[true, true, true, false, true, false, false, false, false, false, false] rfl rfl (one_of HT_.out (by kernel_rfl)) (by decide) (fun K hK => ?_)
                  refine goes_ Tryz.func26 (by kernel_rfl) rfl #[.string t306] (by rfl) rfl rfl (by (try simp only [List.map_toArray, List.map_cons, List.map_nil]); first | done | rfl | (simp only [List.length_drop, List.length_take]; rfl)) ?_
                  with_reducible refine (spec_Lower.calls t306 t307 _ A20.out).mono ?_
                  rintro e w37 ⟨rfl, hb⟩
                  refine ⟨_, rfl, ?_⟩
                  have n0_ := Aside0.mk (blk_below (g := gb290) (o := .cells #[.int .i64 a1_0, .int .i64 a1_1, .int .i64 a1_2, .int .i64 0, .int .i64 0, .int .i64 0] 23 (0, 0)) (by (with_reducible repeat (first | refine blk_drewN ?_ _ | refine blk_drew ?_ | refine blk_alloc ?_ _)); exact BK290.out) hb)
                  have n1_ := Aside0.mk (below_step (by repeat (first | (with_reducible first | exact HB.out | apply below_alloc | apply pw_below_drewN | apply below_drew1 | refine below_set ?_ GE290.out) | exact HB.out)) hb)
                  clear BK290
                  clear HB
                  have BK290 := n0_
                  have HB := n1_
                  clear n0_ n1_
                  (try clear hb)
                  (try clear hb2)
                  (try clear hk)
                  (try clear hi)
                  refine hK.out _ _ ⟨(blk_cell BK290.out 0).trans rfl, (blk_cell BK290.out 1).trans rfl, (blk_cell BK290.out 2).trans rfl, (blk_cell BK290.out 3).trans rfl, (blk_cell BK290.out 4).trans rfl, (blk_cell BK290.out 5).trans rfl⟩ (fun hHeld => ?_)
                  clear hK K
                  refine norm_ (a' := ?_) ?_ ?_
                  rotate_left
                  · show Act.put _ (some 45) _ = _
                    simp only [Act.put, List.setIfInBounds_toArray, List.set_cons_zero, List.set_cons_succ, i64_w, i32_w]
                    rfl
                  refine one_ (i := 3) (N := some 46) #[true, true, true, true, true, false, false, false, false, false, false] rfl rfl (one_of HT_.out (by kernel_rfl)) (by decide) (fun K hK => ?_)
                  refine goes_ Tryz.func15 (by kernel_rfl) rfl #[.int .i64 5, .string t307] (by rfl) rfl rfl (by (try simp only [List.map_toArray, List.map_cons, List.map_nil]); first | done | rfl | (simp only [List.length_drop, List.length_take]; rfl)) ?_
                  with_reducible refine (laws_stars.calls kj2 5 t307 t308 _ A21.out).mono ?_
                  rintro e w' ⟨rfl, ⟨nd, rfl⟩⟩
                  refine ⟨_, rfl, ?_⟩
                  refine hK.out _ _ ⟨(blk_cell BK290.out 0).trans rfl, (blk_cell BK290.out 1).trans rfl, (blk_cell BK290.out 2).trans rfl, (blk_cell BK290.out 3).trans rfl, (blk_cell BK290.out 4).trans rfl, (blk_cell BK290.out 5).trans rfl⟩ (fun hHeld => ?_)
                  clear hK K
                  refine norm_ (a' := ?_) ?_ ?_
                  rotate_left
                  · show Act.put _ (some 46) _ = _
                    simp only [Act.put, List.setIfInBounds_toArray, List.set_cons_zero, List.set_cons_succ, i64_w, i32_w]
                    rfl
                  refine one_ (i := 5) (N := some 48) #[true, true, true, true, true, true, false, false, false, false, false] rfl rfl (one_of HT_.out (by kernel_rfl)) (by decide) (fun K hK => ?_)
                  refine goes_ Tryz.func24 (by kernel_rfl) rfl #[.string t308, .agg #[.int .i64 a1_0, .int .i64 a1_1, .int .i64 a1_2, .int .i64 0, .int .i64 0, .int .i64 0]] (by rfl) rfl rfl (by (try simp only [List.map_toArray, List.map_cons, List.map_nil]); first | done | rfl | (simp only [List.length_drop, List.length_take]; rfl)) ?_
                  with_reducible refine (impl_Due.calls t308 a1_0 a1_1 a1_2 0 0 0 t309 true _ A22.out).mono ?_
                  rintro e w38 ⟨rfl, hb⟩
                  refine ⟨_, rfl, ?_⟩
                  have n0_ := Aside0.mk (blk_below (g := gb290) (o := .cells #[.int .i64 a1_0, .int .i64 a1_1, .int .i64 a1_2, .int .i64 0, .int .i64 0, .int .i64 0] 23 (0, 0)) (by (with_reducible repeat (first | refine blk_drewN ?_ _ | refine blk_drew ?_ | refine blk_alloc ?_ _)); exact BK290.out) hb)
                  have n1_ := Aside0.mk (below_step (by repeat (first | (with_reducible first | exact HB.out | apply below_alloc | apply pw_below_drewN | apply below_drew1 | refine below_set ?_ GE290.out) | exact HB.out)) hb)
                  clear BK290
                  clear HB
                  have BK290 := n0_
                  have HB := n1_
                  clear n0_ n1_
                  (try clear hb)
                  (try clear hb2)
                  (try clear hk)
                  (try clear hi)
                  refine hK.out _ _ ⟨(blk_cell BK290.out 0).trans rfl, (blk_cell BK290.out 1).trans rfl, (blk_cell BK290.out 2).trans rfl, (blk_cell BK290.out 3).trans rfl, (blk_cell BK290.out 4).trans rfl, (blk_cell BK290.out 5).trans rfl⟩ (fun hHeld => ?_)
                  clear hK K
                  refine norm_ (a' := ?_) ?_ ?_
                  rotate_left
                  · show Act.put _ (some 48) _ = _
                    simp only [Act.put, List.setIfInBounds_toArray, List.set_cons_zero, List.set_cons_succ, i64_w, i32_w]
                    rfl
                  refine pure_ (i := 6) (N := some 42) (v := ?_) (a' := ?_) #[true, true, true, true, true, true, true, false, false, false, false] rfl rfl (any_of HT_.out (by kernel_rfl)) (fun _ _ _ h => h) (Or.inl ⟨by rfl, ?_⟩) ?_ ?_
                  rotate_left
                  · intro w'
                    go_simp
                    with_reducible rfl
                  rotate_left
                  · simp only [Act.put, List.setIfInBounds_toArray, List.set_cons_zero, List.set_cons_succ, i64_w, i32_w]
                    rfl
                  refine pure_ (i := 7) (N := some 49) (v := ?_) (a' := ?_) #[true, true, true, true, true, true, true, true, false, false, false] rfl rfl (any_of HT_.out (by kernel_rfl)) (fun _ _ _ h => h) (Or.inl ⟨by rfl, ?_⟩) ?_ ?_
                  rotate_left
                  · intro w'
                    go_simp
                    with_reducible rfl
                  rotate_left
                  · simp only [Act.put, List.setIfInBounds_toArray, List.set_cons_zero, List.set_cons_succ, i64_w, i32_w]
                    rfl
                  refine pure_ (i := 8) (N := some 50) (v := ?_) (a' := ?_) #[true, true, true, true, true, true, true, true, true, false, false] rfl rfl (any_of HT_.out (by kernel_rfl)) (fun _ _ _ h => h) (Or.inl ⟨by rfl, ?_⟩) ?_ ?_
                  rotate_left
                  · intro w'
                    go_simp
                    with_reducible rfl
                  rotate_left
                  · simp only [Act.put, List.setIfInBounds_toArray, List.set_cons_zero, List.set_cons_succ, i64_w, i32_w]
                    rfl
                  refine pure_ (i := 9) (N := some 9) (v := ?_) (a' := ?_) #[true, true, true, true, true, true, true, true, true, true, false] rfl rfl (any_of HT_.out (by kernel_rfl)) (fun _ _ _ h => h) (Or.inl ⟨by rfl, ?_⟩) ?_ ?_
                  rotate_left
                  · intro w'
                    go_simp
                    with_reducible rfl
                  rotate_left
                  · simp only [Act.put, List.setIfInBounds_toArray, List.set_cons_zero, List.set_cons_succ, i64_w, i32_w]
                    rfl
                  refine pure_ (i := 10) (N := some 10) (v := ?_) (a' := ?_) #[true, true, true, true, true, true, true, true, true, true, true] rfl rfl (any_of HT_.out (by kernel_rfl)) (fun _ _ _ h => h) (Or.inl ⟨by rfl, ?_⟩) ?_ ?_
                  rotate_left
                  · intro w'
                    go_simp
                    with_reducible rfl
                  rotate_left
                  · simp only [Act.put, List.setIfInBounds_toArray, List.set_cons_zero, List.set_cons_succ, i64_w, i32_w]
                    rfl
                  refine done_ (done_of HT_.out (by kernel_rfl)) ?_
                  have hcz39_0 : w38.cell? ⟨gb290, 0, none⟩ = some (.int .i64 a1_0) := (blk_cell BK290.out 0).trans rfl
                  have hcz39_1 : w38.cell? ⟨gb290, 1, none⟩ = some (.int .i64 a1_1) := (blk_cell BK290.out 1).trans rfl
                  have hcz39_2 : w38.cell? ⟨gb290, 2, none⟩ = some (.int .i64 a1_2) := (blk_cell BK290.out 2).trans rfl
                  have hcz39_3 : w38.cell? ⟨gb290, 3, none⟩ = some (.int .i64 0) := (blk_cell BK290.out 3).trans rfl
                  have hcz39_4 : w38.cell? ⟨gb290, 4, none⟩ = some (.int .i64 0) := (blk_cell BK290.out 4).trans rfl
                  have hcz39_5 : w38.cell? ⟨gb290, 5, none⟩ = some (.int .i64 0) := (blk_cell BK290.out 5).trans rfl
                  have hfz39_0 := blk_frozen BK290.out 0
                  have hfz39_1 := blk_frozen BK290.out 1
                  have hfz39_2 := blk_frozen BK290.out 2
                  have hfz39_3 := blk_frozen BK290.out 3
                  have hfz39_4 := blk_frozen BK290.out 4
                  have hfz39_5 := blk_frozen BK290.out 5
                  try go_wp2_with (first | (go_at_call 13; (with_reducible refine (laws_moment.calls a1_0 a1_1 a1_2 0 0 0 t311 t312 t313 t314 t315 t316 _ A26.out).mono ?_); rintro e w40 ⟨rfl, hb⟩; have n0_ := Aside0.mk (blk_below (g := gb290) (o := .cells #[.int .i64 a1_0, .int .i64 a1_1, .int .i64 a1_2, .int .i64 0, .int .i64 0, .int .i64 0] 23 (0, 0)) (by (with_reducible repeat (first | refine blk_drewN ?_ _ | refine blk_drew ?_ | refine blk_alloc ?_ _)); exact BK290.out) hb); have n1_ := Aside0.mk (below_step (by repeat (first | (with_reducible first | exact HB.out | apply below_alloc | apply pw_below_drewN | apply below_drew1 | refine below_set ?_ GE290.out) | exact HB.out)) hb); clear BK290; clear HB; have BK290 := n0_; have HB := n1_; clear n0_ n1_; (try clear hb); (try clear hb2); (try clear hk); (try clear hi)) | (go_at_call 27; (with_reducible refine (laws_numbers.calls kj2 t311 t312 t313 t314 t315 t316 t317 t318 t319 t320 t321 t322 _ A27.out).mono ?_); rintro e w41 ⟨rfl, hb⟩; have n0_ := Aside0.mk (blk_below (g := gb290) (o := .cells #[.int .i64 a1_0, .int .i64 a1_1, .int .i64 a1_2, .int .i64 0, .int .i64 0, .int .i64 0] 23 (0, 0)) (by (with_reducible repeat (first | refine blk_drewN ?_ _ | refine blk_drew ?_ | refine blk_alloc ?_ _)); exact BK290.out) hb); have n1_ := Aside0.mk (below_step (by repeat (first | (with_reducible first | exact HB.out | apply below_alloc | apply pw_below_drewN | apply below_drew1 | refine below_set ?_ GE290.out) | exact HB.out)) hb); clear BK290; clear HB; have BK290 := n0_; have HB := n1_; clear n0_ n1_; (try clear hb); (try clear hb2); (try clear hk); (try clear hi)))
                  go_ret
                  exact ⟨by first | rfl | (simp [errW_none, errW_some] <;> rfl) | (simp [*, errW_none, errW_some] <;> rfl), by repeat (first | (with_reducible first | exact HB.out | apply below_alloc | apply pw_below_drewN | apply below_drew1 | refine below_set ?_ GE290.out) | exact HB.out)⟩
                · rw [if_neg c29] at H
                  have c29b0 : (t304 == t300) = false := by simpa using c29
                  (try (have c29b1 : decide (t304 = t300) = false := by simpa using c29))
                  (try (have c29b2 : (t304 == t300) = false := by simpa using c29))
                  (try (have c29b3 : ¬ (t304 = t300) := by simpa using c29))
                  clear c29
                  obtain rfl := Option.some.inj H
                  have hcz42_0 : wc.cell? ⟨gb290, 0, none⟩ = some (.int .i64 a1_0) := (blk_cell BK290.out 0).trans rfl
                  have hcz42_1 : wc.cell? ⟨gb290, 1, none⟩ = some (.int .i64 a1_1) := (blk_cell BK290.out 1).trans rfl
                  have hcz42_2 : wc.cell? ⟨gb290, 2, none⟩ = some (.int .i64 a1_2) := (blk_cell BK290.out 2).trans rfl
                  have hcz42_3 : wc.cell? ⟨gb290, 3, none⟩ = some (.int .i64 a1_3) := (blk_cell BK290.out 3).trans rfl
                  have hcz42_4 : wc.cell? ⟨gb290, 4, none⟩ = some (.int .i64 a1_4) := (blk_cell BK290.out 4).trans rfl
                  have hcz42_5 : wc.cell? ⟨gb290, 5, none⟩ = some (.int .i64 a1_5) := (blk_cell BK290.out 5).trans rfl
                  have hfz42_0 := blk_frozen BK290.out 0
                  have hfz42_1 := blk_frozen BK290.out 1
                  have hfz42_2 := blk_frozen BK290.out 2
                  have hfz42_3 := blk_frozen BK290.out 3
                  have hfz42_4 := blk_frozen BK290.out 4
                  have hfz42_5 := blk_frozen BK290.out 5
                  try go_wp2
                  have n0_ : Aside0 ((((wc.setCell ⟨gb290, 3, none⟩ (.int .i64 0)).setCell ⟨gb290, 4, none⟩ (.int .i64 0)).setCell ⟨gb290, 5, none⟩ (.int .i64 0)).heap[gb290]? = some (.cells #[.int .i64 a1_0, .int .i64 a1_1, .int .i64 a1_2, .int .i64 0, .int .i64 0, .int .i64 0] 23 (0, 0))) := ⟨by (with_reducible repeat (first | refine blk_drewN ?_ _ | refine blk_drew ?_ | refine blk_alloc ?_ _)); refine blk_put (cs := #[.int .i64 a1_0, .int .i64 a1_1, .int .i64 a1_2, .int .i64 0, .int .i64 0, .int .i64 a1_5]) ?_ 5 _ rfl; (with_reducible repeat (first | refine blk_drewN ?_ _ | refine blk_drew ?_ | refine blk_alloc ?_ _)); refine blk_put (cs := #[.int .i64 a1_0, .int .i64 a1_1, .int .i64 a1_2, .int .i64 0, .int .i64 a1_4, .int .i64 a1_5]) ?_ 4 _ rfl; (with_reducible repeat (first | refine blk_drewN ?_ _ | refine blk_drew ?_ | refine blk_alloc ?_ _)); refine blk_put (cs := #[.int .i64 a1_0, .int .i64 a1_1, .int .i64 a1_2, .int .i64 a1_3, .int .i64 a1_4, .int .i64 a1_5]) ?_ 3 _ rfl; (with_reducible repeat (first | refine blk_drewN ?_ _ | refine blk_drew ?_ | refine blk_alloc ?_ _)); exact BK290.out⟩
                  have n1_ : Aside0 (Below w.heap.size w (((wc.setCell ⟨gb290, 3, none⟩ (.int .i64 0)).setCell ⟨gb290, 4, none⟩ (.int .i64 0)).setCell ⟨gb290, 5, none⟩ (.int .i64 0))) := ⟨by repeat (first | (with_reducible first | exact HB.out | apply below_alloc | apply pw_below_drewN | apply below_drew1 | refine below_set ?_ GE290.out) | exact HB.out)⟩
                  (try clear BK290)
                  (try clear HB)
                  generalize (((wc.setCell ⟨gb290, 3, none⟩ (.int .i64 0)).setCell ⟨gb290, 4, none⟩ (.int .i64 0)).setCell ⟨gb290, 5, none⟩ (.int .i64 0)) = w43 at n0_ n1_ ⊢
                  have BK290 := n0_
                  have HB := n1_
                  clear n0_ n1_
                  have n0_ := Aside0.mk (blk_drew BK290.out)
                  have n1_ := Aside0.mk (below_drew1 HB.out)
                  clear BK290
                  clear HB
                  have BK290 := n0_
                  have HB := n1_
                  clear n0_ n1_
                  refine start_ (n := 10) (S := fun w' => w'.cell? ⟨gb290, 0, none⟩ = some (.int .i64 a1_0) ∧ w'.cell? ⟨gb290, 1, none⟩ = some (.int .i64 a1_1) ∧ w'.cell? ⟨gb290, 2, none⟩ = some (.int .i64 a1_2) ∧ w'.cell? ⟨gb290, 3, none⟩ = some (.int .i64 0) ∧ w'.cell? ⟨gb290, 4, none⟩ = some (.int .i64 0) ∧ w'.cell? ⟨gb290, 5, none⟩ = some (.int .i64 0)) (ds := []) #[false, false, false, false, false, false, false, false, false, false] (by kernel_rfl) rfl rfl ⟨(blk_cell BK290.out 0).trans rfl, (blk_cell BK290.out 1).trans rfl, (blk_cell BK290.out 2).trans rfl, (blk_cell BK290.out 3).trans rfl, (blk_cell BK290.out 4).trans rfl, (blk_cell BK290.out 5).trans rfl⟩ (fun hHeld => ?_); refine with_tabW laws_FnDayNames.tab4 laws_FnDayNames.bits4 (fun HT_ HW_ => ?_)
                  generalize w43.drew = w44 at BK290 HB hHeld ⊢
                  refine pure_ (i := 0) (N := some 27) (v := ?_) (a' := ?_) #[true, false, false, false, false, false, false, false, false, false] rfl rfl (any_of HT_.out (by kernel_rfl)) (fun _ _ _ h => h) (Or.inl ⟨by rfl, ?_⟩) ?_ ?_
                  rotate_left
                  · intro w'
                    go_simp
                    with_reducible rfl
                  rotate_left
                  · simp only [Act.put, List.setIfInBounds_toArray, List.set_cons_zero, List.set_cons_succ, i64_w, i32_w]
                    rfl
                  refine take_ (i := 3) (N := some 30) (v := ?_) (a' := ?_) #[true, false, false, true, false, false, false, false, false, false] rfl rfl (take_ofW HT_.out HW_.out (by kernel_rfl)) (fun _ _ _ h => h) (Or.inl ⟨by rfl, ?_⟩) hHeld ?_ ?_
                  rotate_left
                  · rintro w' ⟨s0, s1, s2, s3, s4, s5⟩
                    go_simp
                    with_reducible rfl
                  rotate_left
                  · simp only [Act.put, List.setIfInBounds_toArray, List.set_cons_zero, List.set_cons_succ, i64_w, i32_w]
                    rfl
                  refine one_ (i := 1) (N := some 28) #[true, true, false, true, false, false, false, false, false, false] rfl rfl (one_of HT_.out (by kernel_rfl)) (by decide) (fun K hK => ?_)
                  refine goes_ Tryz.func16 (by kernel_rfl) rfl #[.int .i64 a0] (by rfl) rfl rfl (by (try simp only [List.map_toArray, List.map_cons, List.map_nil]); first | done | rfl | (simp only [List.length_drop, List.length_take]; rfl)) ?_
                  with_reducible refine (spec_Decimal.calls kj2 a0 t298 _ A13.out).mono ?_
                  rintro e w' ⟨rfl, ⟨nd, rfl⟩⟩
                  refine ⟨_, rfl, ?_⟩
                  refine hK.out _ _ ⟨(blk_cell BK290.out 0).trans rfl, (blk_cell BK290.out 1).trans rfl, (blk_cell BK290.out 2).trans rfl, (blk_cell BK290.out 3).trans rfl, (blk_cell BK290.out 4).trans rfl, (blk_cell BK290.out 5).trans rfl⟩ (fun hHeld => ?_)
                  clear hK K
                  refine norm_ (a' := ?_) ?_ ?_
                  rotate_left
                  · show Act.put _ (some 28) _ = _
                    simp only [Act.put, List.setIfInBounds_toArray, List.set_cons_zero, List.set_cons_succ, i64_w, i32_w]
                    rfl
                  refine one_ (i := 2) (N := some 29) #[true, true, true, true, false, false, false, false, false, false] rfl rfl (one_of HT_.out (by kernel_rfl)) (by decide) (fun K hK => ?_)
                  refine goes_ Tryz.func15 (by kernel_rfl) rfl #[.int .i64 5, .string t298] (by rfl) rfl rfl (by (try simp only [List.map_toArray, List.map_cons, List.map_nil]); first | done | rfl | (simp only [List.length_drop, List.length_take]; rfl)) ?_
                  with_reducible refine (laws_stars.calls kj2 5 t298 t299 _ A14.out).mono ?_
                  rintro e w' ⟨rfl, ⟨nd, rfl⟩⟩
                  refine ⟨_, rfl, ?_⟩
                  refine hK.out _ _ ⟨(blk_cell BK290.out 0).trans rfl, (blk_cell BK290.out 1).trans rfl, (blk_cell BK290.out 2).trans rfl, (blk_cell BK290.out 3).trans rfl, (blk_cell BK290.out 4).trans rfl, (blk_cell BK290.out 5).trans rfl⟩ (fun hHeld => ?_)
                  clear hK K
                  refine norm_ (a' := ?_) ?_ ?_
                  rotate_left
                  · show Act.put _ (some 29) _ = _
                    simp only [Act.put, List.setIfInBounds_toArray, List.set_cons_zero, List.set_cons_succ, i64_w, i32_w]
                    rfl
                  refine one_ (i := 4) (N := some 31) #[true, true, true, true, true, false, false, false, false, false] rfl rfl (one_of HT_.out (by kernel_rfl)) (by decide) (fun K hK => ?_)
                  refine goes_ Tryz.func24 (by kernel_rfl) rfl #[.string t299, .agg #[.int .i64 a1_0, .int .i64 a1_1, .int .i64 a1_2, .int .i64 0, .int .i64 0, .int .i64 0]] (by rfl) rfl rfl (by (try simp only [List.map_toArray, List.map_cons, List.map_nil]); first | done | rfl | (simp only [List.length_drop, List.length_take]; rfl)) ?_
                  with_reducible refine (impl_Due.calls t299 a1_0 a1_1 a1_2 0 0 0 t300 true _ A15.out).mono ?_
                  rintro e w45 ⟨rfl, hb⟩
                  refine ⟨_, rfl, ?_⟩
                  have n0_ := Aside0.mk (blk_below (g := gb290) (o := .cells #[.int .i64 a1_0, .int .i64 a1_1, .int .i64 a1_2, .int .i64 0, .int .i64 0, .int .i64 0] 23 (0, 0)) (by (with_reducible repeat (first | refine blk_drewN ?_ _ | refine blk_drew ?_ | refine blk_alloc ?_ _)); exact BK290.out) hb)
                  have n1_ := Aside0.mk (below_step (by repeat (first | (with_reducible first | exact HB.out | apply below_alloc | apply pw_below_drewN | apply below_drew1 | refine below_set ?_ GE290.out) | exact HB.out)) hb)
                  clear BK290
                  clear HB
                  have BK290 := n0_
                  have HB := n1_
                  clear n0_ n1_
                  (try clear hb)
                  (try clear hb2)
                  (try clear hk)
                  (try clear hi)
                  refine hK.out _ _ ⟨(blk_cell BK290.out 0).trans rfl, (blk_cell BK290.out 1).trans rfl, (blk_cell BK290.out 2).trans rfl, (blk_cell BK290.out 3).trans rfl, (blk_cell BK290.out 4).trans rfl, (blk_cell BK290.out 5).trans rfl⟩ (fun hHeld => ?_)
                  clear hK K
                  refine norm_ (a' := ?_) ?_ ?_
                  rotate_left
                  · show Act.put _ (some 31) _ = _
                    simp only [Act.put, List.setIfInBounds_toArray, List.set_cons_zero, List.set_cons_succ, i64_w, i32_w]
                    rfl
                  refine pure_ (i := 5) (N := some 26) (v := ?_) (a' := ?_) #[true, true, true, true, true, true, false, false, false, false] rfl rfl (any_of HT_.out (by kernel_rfl)) (fun _ _ _ h => h) (Or.inl ⟨by rfl, ?_⟩) ?_ ?_
                  rotate_left
                  · intro w'
                    go_simp
                    with_reducible rfl
                  rotate_left
                  · simp only [Act.put, List.setIfInBounds_toArray, List.set_cons_zero, List.set_cons_succ, i64_w, i32_w]
                    rfl
                  refine pure_ (i := 6) (N := some 32) (v := ?_) (a' := ?_) #[true, true, true, true, true, true, true, false, false, false] rfl rfl (any_of HT_.out (by kernel_rfl)) (fun _ _ _ h => h) (Or.inl ⟨by rfl, ?_⟩) ?_ ?_
                  rotate_left
                  · intro w'
                    go_simp
                    with_reducible rfl
                  rotate_left
                  · simp only [Act.put, List.setIfInBounds_toArray, List.set_cons_zero, List.set_cons_succ, i64_w, i32_w]
                    rfl
                  refine pure_ (i := 7) (N := some 33) (v := ?_) (a' := ?_) #[true, true, true, true, true, true, true, true, false, false] rfl rfl (any_of HT_.out (by kernel_rfl)) (fun _ _ _ h => h) (Or.inl ⟨by rfl, ?_⟩) ?_ ?_
                  rotate_left
                  · intro w'
                    go_simp
                    with_reducible rfl
                  rotate_left
                  · simp only [Act.put, List.setIfInBounds_toArray, List.set_cons_zero, List.set_cons_succ, i64_w, i32_w]
                    rfl
                  refine pure_ (i := 8) (N := some 5) (v := ?_) (a' := ?_) #[true, true, true, true, true, true, true, true, true, false] rfl rfl (any_of HT_.out (by kernel_rfl)) (fun _ _ _ h => h) (Or.inl ⟨by rfl, ?_⟩) ?_ ?_
                  rotate_left
                  · intro w'
                    go_simp
                    with_reducible rfl
                  rotate_left
                  · simp only [Act.put, List.setIfInBounds_toArray, List.set_cons_zero, List.set_cons_succ, i64_w, i32_w]
                    rfl
                  refine pure_ (i := 9) (N := some 6) (v := ?_) (a' := ?_) #[true, true, true, true, true, true, true, true, true, true] rfl rfl (any_of HT_.out (by kernel_rfl)) (fun _ _ _ h => h) (Or.inl ⟨by rfl, ?_⟩) ?_ ?_
                  rotate_left
                  · intro w'
                    go_simp
                    with_reducible rfl
                  rotate_left
                  · simp only [Act.put, List.setIfInBounds_toArray, List.set_cons_zero, List.set_cons_succ, i64_w, i32_w]
                    rfl
                  refine done_ (done_of HT_.out (by kernel_rfl)) ?_
                  try go_wp2
                  have n0_ := Aside0.mk (blk_drew BK290.out)
                  have n1_ := Aside0.mk (below_drew1 HB.out)
                  clear BK290
                  clear HB
                  have BK290 := n0_
                  have HB := n1_
                  clear n0_ n1_
                  refine start_ (n := 10) (S := fun w' => w'.cell? ⟨gb290, 0, none⟩ = some (.int .i64 a1_0) ∧ w'.cell? ⟨gb290, 1, none⟩ = some (.int .i64 a1_1) ∧ w'.cell? ⟨gb290, 2, none⟩ = some (.int .i64 a1_2) ∧ w'.cell? ⟨gb290, 3, none⟩ = some (.int .i64 0) ∧ w'.cell? ⟨gb290, 4, none⟩ = some (.int .i64 0) ∧ w'.cell? ⟨gb290, 5, none⟩ = some (.int .i64 0)) (ds := []) #[false, false, false, false, false, false, false, false, false, false] (by kernel_rfl) rfl rfl ⟨(blk_cell BK290.out 0).trans rfl, (blk_cell BK290.out 1).trans rfl, (blk_cell BK290.out 2).trans rfl, (blk_cell BK290.out 3).trans rfl, (blk_cell BK290.out 4).trans rfl, (blk_cell BK290.out 5).trans rfl⟩ (fun hHeld => ?_); refine with_tabW laws_FnDayNames.tab5 laws_FnDayNames.bits5 (fun HT_ HW_ => ?_)
                  generalize w45.drew = w46 at BK290 HB hHeld ⊢
                  refine pure_ (i := 0) (N := some 35) (v := ?_) (a' := ?_) #[true, false, false, false, false, false, false, false, false, false] rfl rfl (any_of HT_.out (by kernel_rfl)) (fun _ _ _ h => h) (Or.inl ⟨by rfl, ?_⟩) ?_ ?_
                  rotate_left
                  · intro w'
                    go_simp
                    with_reducible rfl
                  rotate_left
                  · simp only [Act.put, List.setIfInBounds_toArray, List.set_cons_zero, List.set_cons_succ, i64_w, i32_w]
                    rfl
                  refine take_ (i := 3) (N := some 38) (v := ?_) (a' := ?_) #[true, false, false, true, false, false, false, false, false, false] rfl rfl (take_ofW HT_.out HW_.out (by kernel_rfl)) (fun _ _ _ h => h) (Or.inl ⟨by rfl, ?_⟩) hHeld ?_ ?_
                  rotate_left
                  · rintro w' ⟨s0, s1, s2, s3, s4, s5⟩
                    go_simp
                    with_reducible rfl
                  rotate_left
                  · simp only [Act.put, List.setIfInBounds_toArray, List.set_cons_zero, List.set_cons_succ, i64_w, i32_w]
                    rfl
                  refine one_ (i := 1) (N := some 36) #[true, true, false, true, false, false, false, false, false, false] rfl rfl (one_of HT_.out (by kernel_rfl)) (by decide) (fun K hK => ?_)
                  refine goes_ Tryz.func25 (by kernel_rfl) rfl #[.int .i64 a0] (by rfl) rfl rfl (by (try simp only [List.map_toArray, List.map_cons, List.map_nil]); first | done | rfl | (simp only [List.length_drop, List.length_take]; rfl)) ?_
                  with_reducible refine (spec_DayName.calls a0 t302 _ A16.out).mono ?_
                  rintro e w' ⟨rfl, ⟨nd, rfl⟩⟩
                  refine ⟨_, rfl, ?_⟩
                  refine hK.out _ _ ⟨(blk_cell BK290.out 0).trans rfl, (blk_cell BK290.out 1).trans rfl, (blk_cell BK290.out 2).trans rfl, (blk_cell BK290.out 3).trans rfl, (blk_cell BK290.out 4).trans rfl, (blk_cell BK290.out 5).trans rfl⟩ (fun hHeld => ?_)
                  clear hK K
                  refine norm_ (a' := ?_) ?_ ?_
                  rotate_left
                  · show Act.put _ (some 36) _ = _
                    simp only [Act.put, List.setIfInBounds_toArray, List.set_cons_zero, List.set_cons_succ, i64_w, i32_w]
                    rfl
                  refine one_ (i := 2) (N := some 37) #[true, true, true, true, false, false, false, false, false, false] rfl rfl (one_of HT_.out (by kernel_rfl)) (by decide) (fun K hK => ?_)
                  refine goes_ Tryz.func15 (by kernel_rfl) rfl #[.int .i64 5, .string t302] (by rfl) rfl rfl (by (try simp only [List.map_toArray, List.map_cons, List.map_nil]); first | done | rfl | (simp only [List.length_drop, List.length_take]; rfl)) ?_
                  with_reducible refine (laws_stars.calls kj2 5 t302 t303 _ A17.out).mono ?_
                  rintro e w' ⟨rfl, ⟨nd, rfl⟩⟩
                  refine ⟨_, rfl, ?_⟩
                  refine hK.out _ _ ⟨(blk_cell BK290.out 0).trans rfl, (blk_cell BK290.out 1).trans rfl, (blk_cell BK290.out 2).trans rfl, (blk_cell BK290.out 3).trans rfl, (blk_cell BK290.out 4).trans rfl, (blk_cell BK290.out 5).trans rfl⟩ (fun hHeld => ?_)
                  clear hK K
                  refine norm_ (a' := ?_) ?_ ?_
                  rotate_left
                  · show Act.put _ (some 37) _ = _
                    simp only [Act.put, List.setIfInBounds_toArray, List.set_cons_zero, List.set_cons_succ, i64_w, i32_w]
                    rfl
                  refine one_ (i := 4) (N := some 39) #[true, true, true, true, true, false, false, false, false, false] rfl rfl (one_of HT_.out (by kernel_rfl)) (by decide) (fun K hK => ?_)
                  refine goes_ Tryz.func24 (by kernel_rfl) rfl #[.string t303, .agg #[.int .i64 a1_0, .int .i64 a1_1, .int .i64 a1_2, .int .i64 0, .int .i64 0, .int .i64 0]] (by rfl) rfl rfl (by (try simp only [List.map_toArray, List.map_cons, List.map_nil]); first | done | rfl | (simp only [List.length_drop, List.length_take]; rfl)) ?_
                  with_reducible refine (impl_Due.calls t303 a1_0 a1_1 a1_2 0 0 0 t304 true _ A18.out).mono ?_
                  rintro e w47 ⟨rfl, hb⟩
                  refine ⟨_, rfl, ?_⟩
                  have n0_ := Aside0.mk (blk_below (g := gb290) (o := .cells #[.int .i64 a1_0, .int .i64 a1_1, .int .i64 a1_2, .int .i64 0, .int .i64 0, .int .i64 0] 23 (0, 0)) (by (with_reducible repeat (first | refine blk_drewN ?_ _ | refine blk_drew ?_ | refine blk_alloc ?_ _)); exact BK290.out) hb)
                  have n1_ := Aside0.mk (below_step (by repeat (first | (with_reducible first | exact HB.out | apply below_alloc | apply pw_below_drewN | apply below_drew1 | refine below_set ?_ GE290.out) | exact HB.out)) hb)
                  clear BK290
                  clear HB
                  have BK290 := n0_
                  have HB := n1_
                  clear n0_ n1_
                  (try clear hb)
                  (try clear hb2)
                  (try clear hk)
                  (try clear hi)
                  refine hK.out _ _ ⟨(blk_cell BK290.out 0).trans rfl, (blk_cell BK290.out 1).trans rfl, (blk_cell BK290.out 2).trans rfl, (blk_cell BK290.out 3).trans rfl, (blk_cell BK290.out 4).trans rfl, (blk_cell BK290.out 5).trans rfl⟩ (fun hHeld => ?_)
                  clear hK K
                  refine norm_ (a' := ?_) ?_ ?_
                  rotate_left
                  · show Act.put _ (some 39) _ = _
                    simp only [Act.put, List.setIfInBounds_toArray, List.set_cons_zero, List.set_cons_succ, i64_w, i32_w]
                    rfl
                  refine pure_ (i := 5) (N := some 34) (v := ?_) (a' := ?_) #[true, true, true, true, true, true, false, false, false, false] rfl rfl (any_of HT_.out (by kernel_rfl)) (fun _ _ _ h => h) (Or.inl ⟨by rfl, ?_⟩) ?_ ?_
                  rotate_left
                  · intro w'
                    go_simp
                    with_reducible rfl
                  rotate_left
                  · simp only [Act.put, List.setIfInBounds_toArray, List.set_cons_zero, List.set_cons_succ, i64_w, i32_w]
                    rfl
                  refine pure_ (i := 6) (N := some 40) (v := ?_) (a' := ?_) #[true, true, true, true, true, true, true, false, false, false] rfl rfl (any_of HT_.out (by kernel_rfl)) (fun _ _ _ h => h) (Or.inl ⟨by rfl, ?_⟩) ?_ ?_
                  rotate_left
                  · intro w'
                    go_simp
                    with_reducible rfl
                  rotate_left
                  · simp only [Act.put, List.setIfInBounds_toArray, List.set_cons_zero, List.set_cons_succ, i64_w, i32_w]
                    rfl
                  refine pure_ (i := 7) (N := some 41) (v := ?_) (a' := ?_) #[true, true, true, true, true, true, true, true, false, false] rfl rfl (any_of HT_.out (by kernel_rfl)) (fun _ _ _ h => h) (Or.inl ⟨by rfl, ?_⟩) ?_ ?_
                  rotate_left
                  · intro w'
                    go_simp
                    with_reducible rfl
                  rotate_left
                  · simp only [Act.put, List.setIfInBounds_toArray, List.set_cons_zero, List.set_cons_succ, i64_w, i32_w]
                    rfl
                  refine pure_ (i := 8) (N := some 7) (v := ?_) (a' := ?_) #[true, true, true, true, true, true, true, true, true, false] rfl rfl (any_of HT_.out (by kernel_rfl)) (fun _ _ _ h => h) (Or.inl ⟨by rfl, ?_⟩) ?_ ?_
                  rotate_left
                  · intro w'
                    go_simp
                    with_reducible rfl
                  rotate_left
                  · simp only [Act.put, List.setIfInBounds_toArray, List.set_cons_zero, List.set_cons_succ, i64_w, i32_w]
                    rfl
                  refine pure_ (i := 9) (N := some 8) (v := ?_) (a' := ?_) #[true, true, true, true, true, true, true, true, true, true] rfl rfl (any_of HT_.out (by kernel_rfl)) (fun _ _ _ h => h) (Or.inl ⟨by rfl, ?_⟩) ?_ ?_
                  rotate_left
                  · intro w'
                    go_simp
                    with_reducible rfl
                  rotate_left
                  · simp only [Act.put, List.setIfInBounds_toArray, List.set_cons_zero, List.set_cons_succ, i64_w, i32_w]
                    rfl
                  refine done_ (done_of HT_.out (by kernel_rfl)) ?_
                  try go_wp2
                  have n0_ := Aside0.mk (blk_drew BK290.out)
                  have n1_ := Aside0.mk (below_drew1 HB.out)
                  clear BK290
                  clear HB
                  have BK290 := n0_
                  have HB := n1_
                  clear n0_ n1_
                  refine start_ (n := 11) (S := fun w' => w'.cell? ⟨gb290, 0, none⟩ = some (.int .i64 a1_0) ∧ w'.cell? ⟨gb290, 1, none⟩ = some (.int .i64 a1_1) ∧ w'.cell? ⟨gb290, 2, none⟩ = some (.int .i64 a1_2) ∧ w'.cell? ⟨gb290, 3, none⟩ = some (.int .i64 0) ∧ w'.cell? ⟨gb290, 4, none⟩ = some (.int .i64 0) ∧ w'.cell? ⟨gb290, 5, none⟩ = some (.int .i64 0)) (ds := []) #[false, false, false, false, false, false, false, false, false, false, false] (by kernel_rfl) rfl rfl ⟨(blk_cell BK290.out 0).trans rfl, (blk_cell BK290.out 1).trans rfl, (blk_cell BK290.out 2).trans rfl, (blk_cell BK290.out 3).trans rfl, (blk_cell BK290.out 4).trans rfl, (blk_cell BK290.out 5).trans rfl⟩ (fun hHeld => ?_); refine with_tabW laws_FnDayNames.tab6 laws_FnDayNames.bits6 (fun HT_ HW_ => ?_)
                  generalize w47.drew = w48 at BK290 HB hHeld ⊢
                  refine pure_ (i := 0) (N := some 43) (v := ?_) (a' := ?_) #[true, false, false, false, false, false, false, false, false, false, false] rfl rfl (any_of HT_.out (by kernel_rfl)) (fun _ _ _ h => h) (Or.inl ⟨by rfl, ?_⟩) ?_ ?_
                  rotate_left
                  · intro w'
                    go_simp
                    with_reducible rfl
                  rotate_left
                  · simp only [Act.put, List.setIfInBounds_toArray, List.set_cons_zero, List.set_cons_succ, i64_w, i32_w]
                    rfl
                  refine take_ (i := 4) (N := some 47) (v := ?_) (a' := ?_) #[true, false, false, false, true, false, false, false, false, false, false] rfl rfl (take_ofW HT_.out HW_.out (by kernel_rfl)) (fun _ _ _ h => h) (Or.inl ⟨by rfl, ?_⟩) hHeld ?_ ?_
                  rotate_left
                  · rintro w' ⟨s0, s1, s2, s3, s4, s5⟩
                    go_simp
                    with_reducible rfl
                  rotate_left
                  · simp only [Act.put, List.setIfInBounds_toArray, List.set_cons_zero, List.set_cons_succ, i64_w, i32_w]
                    rfl
                  refine one_ (i := 1) (N := some 44) #[true, true, false, false, true, false, false, false, false, false, false] rfl rfl (one_of HT_.out (by kernel_rfl)) (by decide) (fun K hK => ?_)
                  refine goes_ Tryz.func25 (by kernel_rfl) rfl #[.int .i64 a0] (by rfl) rfl rfl (by (try simp only [List.map_toArray, List.map_cons, List.map_nil]); first | done | rfl | (simp only [List.length_drop, List.length_take]; rfl)) ?_
                  with_reducible refine (spec_DayName.calls a0 t306 _ A19.out).mono ?_
                  rintro e w' ⟨rfl, ⟨nd, rfl⟩⟩
                  refine ⟨_, rfl, ?_⟩
                  refine hK.out _ _ ⟨(blk_cell BK290.out 0).trans rfl, (blk_cell BK290.out 1).trans rfl, (blk_cell BK290.out 2).trans rfl, (blk_cell BK290.out 3).trans rfl, (blk_cell BK290.out 4).trans rfl, (blk_cell BK290.out 5).trans rfl⟩ (fun hHeld => ?_)
                  clear hK K
                  refine norm_ (a' := ?_) ?_ ?_
                  rotate_left
                  · show Act.put _ (some 44) _ = _
                    simp only [Act.put, List.setIfInBounds_toArray, List.set_cons_zero, List.set_cons_succ, i64_w, i32_w]
                    rfl
                  refine one_ (i := 2) (N := some 45) #[true, true, true, false, true, false, false, false, false, false, false] rfl rfl (one_of HT_.out (by kernel_rfl)) (by decide) (fun K hK => ?_)
                  refine goes_ Tryz.func26 (by kernel_rfl) rfl #[.string t306] (by rfl) rfl rfl (by (try simp only [List.map_toArray, List.map_cons, List.map_nil]); first | done | rfl | (simp only [List.length_drop, List.length_take]; rfl)) ?_
                  with_reducible refine (spec_Lower.calls t306 t307 _ A20.out).mono ?_
                  rintro e w49 ⟨rfl, hb⟩
                  refine ⟨_, rfl, ?_⟩
                  have n0_ := Aside0.mk (blk_below (g := gb290) (o := .cells #[.int .i64 a1_0, .int .i64 a1_1, .int .i64 a1_2, .int .i64 0, .int .i64 0, .int .i64 0] 23 (0, 0)) (by (with_reducible repeat (first | refine blk_drewN ?_ _ | refine blk_drew ?_ | refine blk_alloc ?_ _)); exact BK290.out) hb)
                  have n1_ := Aside0.mk (below_step (by repeat (first | (with_reducible first | exact HB.out | apply below_alloc | apply pw_below_drewN | apply below_drew1 | refine below_set ?_ GE290.out) | exact HB.out)) hb)
                  clear BK290
                  clear HB
                  have BK290 := n0_
                  have HB := n1_
                  clear n0_ n1_
                  (try clear hb)
                  (try clear hb2)
                  (try clear hk)
                  (try clear hi)
                  refine hK.out _ _ ⟨(blk_cell BK290.out 0).trans rfl, (blk_cell BK290.out 1).trans rfl, (blk_cell BK290.out 2).trans rfl, (blk_cell BK290.out 3).trans rfl, (blk_cell BK290.out 4).trans rfl, (blk_cell BK290.out 5).trans rfl⟩ (fun hHeld => ?_)
                  clear hK K
                  refine norm_ (a' := ?_) ?_ ?_
                  rotate_left
                  · show Act.put _ (some 45) _ = _
                    simp only [Act.put, List.setIfInBounds_toArray, List.set_cons_zero, List.set_cons_succ, i64_w, i32_w]
                    rfl
                  refine one_ (i := 3) (N := some 46) #[true, true, true, true, true, false, false, false, false, false, false] rfl rfl (one_of HT_.out (by kernel_rfl)) (by decide) (fun K hK => ?_)
                  refine goes_ Tryz.func15 (by kernel_rfl) rfl #[.int .i64 5, .string t307] (by rfl) rfl rfl (by (try simp only [List.map_toArray, List.map_cons, List.map_nil]); first | done | rfl | (simp only [List.length_drop, List.length_take]; rfl)) ?_
                  with_reducible refine (laws_stars.calls kj2 5 t307 t308 _ A21.out).mono ?_
                  rintro e w' ⟨rfl, ⟨nd, rfl⟩⟩
                  refine ⟨_, rfl, ?_⟩
                  refine hK.out _ _ ⟨(blk_cell BK290.out 0).trans rfl, (blk_cell BK290.out 1).trans rfl, (blk_cell BK290.out 2).trans rfl, (blk_cell BK290.out 3).trans rfl, (blk_cell BK290.out 4).trans rfl, (blk_cell BK290.out 5).trans rfl⟩ (fun hHeld => ?_)
                  clear hK K
                  refine norm_ (a' := ?_) ?_ ?_
                  rotate_left
                  · show Act.put _ (some 46) _ = _
                    simp only [Act.put, List.setIfInBounds_toArray, List.set_cons_zero, List.set_cons_succ, i64_w, i32_w]
                    rfl
                  refine one_ (i := 5) (N := some 48) #[true, true, true, true, true, true, false, false, false, false, false] rfl rfl (one_of HT_.out (by kernel_rfl)) (by decide) (fun K hK => ?_)
                  refine goes_ Tryz.func24 (by kernel_rfl) rfl #[.string t308, .agg #[.int .i64 a1_0, .int .i64 a1_1, .int .i64 a1_2, .int .i64 0, .int .i64 0, .int .i64 0]] (by rfl) rfl rfl (by (try simp only [List.map_toArray, List.map_cons, List.map_nil]); first | done | rfl | (simp only [List.length_drop, List.length_take]; rfl)) ?_
                  with_reducible refine (impl_Due.calls t308 a1_0 a1_1 a1_2 0 0 0 t309 true _ A22.out).mono ?_
                  rintro e w50 ⟨rfl, hb⟩
                  refine ⟨_, rfl, ?_⟩
                  have n0_ := Aside0.mk (blk_below (g := gb290) (o := .cells #[.int .i64 a1_0, .int .i64 a1_1, .int .i64 a1_2, .int .i64 0, .int .i64 0, .int .i64 0] 23 (0, 0)) (by (with_reducible repeat (first | refine blk_drewN ?_ _ | refine blk_drew ?_ | refine blk_alloc ?_ _)); exact BK290.out) hb)
                  have n1_ := Aside0.mk (below_step (by repeat (first | (with_reducible first | exact HB.out | apply below_alloc | apply pw_below_drewN | apply below_drew1 | refine below_set ?_ GE290.out) | exact HB.out)) hb)
                  clear BK290
                  clear HB
                  have BK290 := n0_
                  have HB := n1_
                  clear n0_ n1_
                  (try clear hb)
                  (try clear hb2)
                  (try clear hk)
                  (try clear hi)
                  refine hK.out _ _ ⟨(blk_cell BK290.out 0).trans rfl, (blk_cell BK290.out 1).trans rfl, (blk_cell BK290.out 2).trans rfl, (blk_cell BK290.out 3).trans rfl, (blk_cell BK290.out 4).trans rfl, (blk_cell BK290.out 5).trans rfl⟩ (fun hHeld => ?_)
                  clear hK K
                  refine norm_ (a' := ?_) ?_ ?_
                  rotate_left
                  · show Act.put _ (some 48) _ = _
                    simp only [Act.put, List.setIfInBounds_toArray, List.set_cons_zero, List.set_cons_succ, i64_w, i32_w]
                    rfl
                  refine pure_ (i := 6) (N := some 42) (v := ?_) (a' := ?_) #[true, true, true, true, true, true, true, false, false, false, false] rfl rfl (any_of HT_.out (by kernel_rfl)) (fun _ _ _ h => h) (Or.inl ⟨by rfl, ?_⟩) ?_ ?_
                  rotate_left
                  · intro w'
                    go_simp
                    with_reducible rfl
                  rotate_left
                  · simp only [Act.put, List.setIfInBounds_toArray, List.set_cons_zero, List.set_cons_succ, i64_w, i32_w]
                    rfl
                  refine pure_ (i := 7) (N := some 49) (v := ?_) (a' := ?_) #[true, true, true, true, true, true, true, true, false, false, false] rfl rfl (any_of HT_.out (by kernel_rfl)) (fun _ _ _ h => h) (Or.inl ⟨by rfl, ?_⟩) ?_ ?_
                  rotate_left
                  · intro w'
                    go_simp
                    with_reducible rfl
                  rotate_left
                  · simp only [Act.put, List.setIfInBounds_toArray, List.set_cons_zero, List.set_cons_succ, i64_w, i32_w]
                    rfl
                  refine pure_ (i := 8) (N := some 50) (v := ?_) (a' := ?_) #[true, true, true, true, true, true, true, true, true, false, false] rfl rfl (any_of HT_.out (by kernel_rfl)) (fun _ _ _ h => h) (Or.inl ⟨by rfl, ?_⟩) ?_ ?_
                  rotate_left
                  · intro w'
                    go_simp
                    with_reducible rfl
                  rotate_left
                  · simp only [Act.put, List.setIfInBounds_toArray, List.set_cons_zero, List.set_cons_succ, i64_w, i32_w]
                    rfl
                  refine pure_ (i := 9) (N := some 9) (v := ?_) (a' := ?_) #[true, true, true, true, true, true, true, true, true, true, false] rfl rfl (any_of HT_.out (by kernel_rfl)) (fun _ _ _ h => h) (Or.inl ⟨by rfl, ?_⟩) ?_ ?_
                  rotate_left
                  · intro w'
                    go_simp
                    with_reducible rfl
                  rotate_left
                  · simp only [Act.put, List.setIfInBounds_toArray, List.set_cons_zero, List.set_cons_succ, i64_w, i32_w]
                    rfl
                  refine pure_ (i := 10) (N := some 10) (v := ?_) (a' := ?_) #[true, true, true, true, true, true, true, true, true, true, true] rfl rfl (any_of HT_.out (by kernel_rfl)) (fun _ _ _ h => h) (Or.inl ⟨by rfl, ?_⟩) ?_ ?_
                  rotate_left
                  · intro w'
                    go_simp
                    with_reducible rfl
                  rotate_left
                  · simp only [Act.put, List.setIfInBounds_toArray, List.set_cons_zero, List.set_cons_succ, i64_w, i32_w]
                    rfl
                  refine done_ (done_of HT_.out (by kernel_rfl)) ?_
                  have hcz51_0 : w50.cell? ⟨gb290, 0, none⟩ = some (.int .i64 a1_0) := (blk_cell BK290.out 0).trans rfl
                  have hcz51_1 : w50.cell? ⟨gb290, 1, none⟩ = some (.int .i64 a1_1) := (blk_cell BK290.out 1).trans rfl
                  have hcz51_2 : w50.cell? ⟨gb290, 2, none⟩ = some (.int .i64 a1_2) := (blk_cell BK290.out 2).trans rfl
                  have hcz51_3 : w50.cell? ⟨gb290, 3, none⟩ = some (.int .i64 0) := (blk_cell BK290.out 3).trans rfl
                  have hcz51_4 : w50.cell? ⟨gb290, 4, none⟩ = some (.int .i64 0) := (blk_cell BK290.out 4).trans rfl
                  have hcz51_5 : w50.cell? ⟨gb290, 5, none⟩ = some (.int .i64 0) := (blk_cell BK290.out 5).trans rfl
                  have hfz51_0 := blk_frozen BK290.out 0
                  have hfz51_1 := blk_frozen BK290.out 1
                  have hfz51_2 := blk_frozen BK290.out 2
                  have hfz51_3 := blk_frozen BK290.out 3
                  have hfz51_4 := blk_frozen BK290.out 4
                  have hfz51_5 := blk_frozen BK290.out 5
                  try go_wp2_with (first | (go_at_call 13; (with_reducible refine (laws_moment.calls a1_0 a1_1 a1_2 0 0 0 t311 t312 t313 t314 t315 t316 _ A26.out).mono ?_); rintro e w52 ⟨rfl, hb⟩; have n0_ := Aside0.mk (blk_below (g := gb290) (o := .cells #[.int .i64 a1_0, .int .i64 a1_1, .int .i64 a1_2, .int .i64 0, .int .i64 0, .int .i64 0] 23 (0, 0)) (by (with_reducible repeat (first | refine blk_drewN ?_ _ | refine blk_drew ?_ | refine blk_alloc ?_ _)); exact BK290.out) hb); have n1_ := Aside0.mk (below_step (by repeat (first | (with_reducible first | exact HB.out | apply below_alloc | apply pw_below_drewN | apply below_drew1 | refine below_set ?_ GE290.out) | exact HB.out)) hb); clear BK290; clear HB; have BK290 := n0_; have HB := n1_; clear n0_ n1_; (try clear hb); (try clear hb2); (try clear hk); (try clear hi)) | (go_at_call 27; (with_reducible refine (laws_numbers.calls kj2 t311 t312 t313 t314 t315 t316 t317 t318 t319 t320 t321 t322 _ A27.out).mono ?_); rintro e w53 ⟨rfl, hb⟩; have n0_ := Aside0.mk (blk_below (g := gb290) (o := .cells #[.int .i64 a1_0, .int .i64 a1_1, .int .i64 a1_2, .int .i64 0, .int .i64 0, .int .i64 0] 23 (0, 0)) (by (with_reducible repeat (first | refine blk_drewN ?_ _ | refine blk_drew ?_ | refine blk_alloc ?_ _)); exact BK290.out) hb); have n1_ := Aside0.mk (below_step (by repeat (first | (with_reducible first | exact HB.out | apply below_alloc | apply pw_below_drewN | apply below_drew1 | refine below_set ?_ GE290.out) | exact HB.out)) hb); clear BK290; clear HB; have BK290 := n0_; have HB := n1_; clear n0_ n1_; (try clear hb); (try clear hb2); (try clear hk); (try clear hi)))
                  go_ret
                  exact ⟨by first | rfl | (simp [errW_none, errW_some] <;> rfl) | (simp [*, errW_none, errW_some] <;> rfl), by repeat (first | (with_reducible first | exact HB.out | apply below_alloc | apply pw_below_drewN | apply below_drew1 | refine below_set ?_ GE290.out) | exact HB.out)⟩
              · rw [if_neg c28] at H
                have c28b0 : (t300 == (t322 == a0)) = false := by simpa using c28
                (try (have c28b1 : decide (t300 = (t322 == a0)) = false := by simpa using c28))
                (try (have c28b2 : (t300 == (t322 == a0)) = false := by simpa using c28))
                (try (have c28b3 : ¬ (t300 = (t322 == a0)) := by simpa using c28))
                clear c28
                obtain rfl := Option.some.inj H
                have hcz54_0 : wc.cell? ⟨gb290, 0, none⟩ = some (.int .i64 a1_0) := (blk_cell BK290.out 0).trans rfl
                have hcz54_1 : wc.cell? ⟨gb290, 1, none⟩ = some (.int .i64 a1_1) := (blk_cell BK290.out 1).trans rfl
                have hcz54_2 : wc.cell? ⟨gb290, 2, none⟩ = some (.int .i64 a1_2) := (blk_cell BK290.out 2).trans rfl
                have hcz54_3 : wc.cell? ⟨gb290, 3, none⟩ = some (.int .i64 a1_3) := (blk_cell BK290.out 3).trans rfl
                have hcz54_4 : wc.cell? ⟨gb290, 4, none⟩ = some (.int .i64 a1_4) := (blk_cell BK290.out 4).trans rfl
                have hcz54_5 : wc.cell? ⟨gb290, 5, none⟩ = some (.int .i64 a1_5) := (blk_cell BK290.out 5).trans rfl
                have hfz54_0 := blk_frozen BK290.out 0
                have hfz54_1 := blk_frozen BK290.out 1
                have hfz54_2 := blk_frozen BK290.out 2
                have hfz54_3 := blk_frozen BK290.out 3
                have hfz54_4 := blk_frozen BK290.out 4
                have hfz54_5 := blk_frozen BK290.out 5
                try go_wp2
                have n0_ : Aside0 ((((wc.setCell ⟨gb290, 3, none⟩ (.int .i64 0)).setCell ⟨gb290, 4, none⟩ (.int .i64 0)).setCell ⟨gb290, 5, none⟩ (.int .i64 0)).heap[gb290]? = some (.cells #[.int .i64 a1_0, .int .i64 a1_1, .int .i64 a1_2, .int .i64 0, .int .i64 0, .int .i64 0] 23 (0, 0))) := ⟨by (with_reducible repeat (first | refine blk_drewN ?_ _ | refine blk_drew ?_ | refine blk_alloc ?_ _)); refine blk_put (cs := #[.int .i64 a1_0, .int .i64 a1_1, .int .i64 a1_2, .int .i64 0, .int .i64 0, .int .i64 a1_5]) ?_ 5 _ rfl; (with_reducible repeat (first | refine blk_drewN ?_ _ | refine blk_drew ?_ | refine blk_alloc ?_ _)); refine blk_put (cs := #[.int .i64 a1_0, .int .i64 a1_1, .int .i64 a1_2, .int .i64 0, .int .i64 a1_4, .int .i64 a1_5]) ?_ 4 _ rfl; (with_reducible repeat (first | refine blk_drewN ?_ _ | refine blk_drew ?_ | refine blk_alloc ?_ _)); refine blk_put (cs := #[.int .i64 a1_0, .int .i64 a1_1, .int .i64 a1_2, .int .i64 a1_3, .int .i64 a1_4, .int .i64 a1_5]) ?_ 3 _ rfl; (with_reducible repeat (first | refine blk_drewN ?_ _ | refine blk_drew ?_ | refine blk_alloc ?_ _)); exact BK290.out⟩
                have n1_ : Aside0 (Below w.heap.size w (((wc.setCell ⟨gb290, 3, none⟩ (.int .i64 0)).setCell ⟨gb290, 4, none⟩ (.int .i64 0)).setCell ⟨gb290, 5, none⟩ (.int .i64 0))) := ⟨by repeat (first | (with_reducible first | exact HB.out | apply below_alloc | apply pw_below_drewN | apply below_drew1 | refine below_set ?_ GE290.out) | exact HB.out)⟩
                (try clear BK290)
                (try clear HB)
                generalize (((wc.setCell ⟨gb290, 3, none⟩ (.int .i64 0)).setCell ⟨gb290, 4, none⟩ (.int .i64 0)).setCell ⟨gb290, 5, none⟩ (.int .i64 0)) = w55 at n0_ n1_ ⊢
                have BK290 := n0_
                have HB := n1_
                clear n0_ n1_
                have n0_ := Aside0.mk (blk_drew BK290.out)
                have n1_ := Aside0.mk (below_drew1 HB.out)
                clear BK290
                clear HB
                have BK290 := n0_
                have HB := n1_
                clear n0_ n1_
                refine start_ (n := 10) (S := fun w' => w'.cell? ⟨gb290, 0, none⟩ = some (.int .i64 a1_0) ∧ w'.cell? ⟨gb290, 1, none⟩ = some (.int .i64 a1_1) ∧ w'.cell? ⟨gb290, 2, none⟩ = some (.int .i64 a1_2) ∧ w'.cell? ⟨gb290, 3, none⟩ = some (.int .i64 0) ∧ w'.cell? ⟨gb290, 4, none⟩ = some (.int .i64 0) ∧ w'.cell? ⟨gb290, 5, none⟩ = some (.int .i64 0)) (ds := []) #[false, false, false, false, false, false, false, false, false, false] (by kernel_rfl) rfl rfl ⟨(blk_cell BK290.out 0).trans rfl, (blk_cell BK290.out 1).trans rfl, (blk_cell BK290.out 2).trans rfl, (blk_cell BK290.out 3).trans rfl, (blk_cell BK290.out 4).trans rfl, (blk_cell BK290.out 5).trans rfl⟩ (fun hHeld => ?_); refine with_tabW laws_FnDayNames.tab4 laws_FnDayNames.bits4 (fun HT_ HW_ => ?_)
                generalize w55.drew = w56 at BK290 HB hHeld ⊢
                refine pure_ (i := 0) (N := some 27) (v := ?_) (a' := ?_) #[true, false, false, false, false, false, false, false, false, false] rfl rfl (any_of HT_.out (by kernel_rfl)) (fun _ _ _ h => h) (Or.inl ⟨by rfl, ?_⟩) ?_ ?_
                rotate_left
                · intro w'
                  go_simp
                  with_reducible rfl
                rotate_left
                · simp only [Act.put, List.setIfInBounds_toArray, List.set_cons_zero, List.set_cons_succ, i64_w, i32_w]
                  rfl
                refine take_ (i := 3) (N := some 30) (v := ?_) (a' := ?_) #[true, false, false, true, false, false, false, false, false, false] rfl rfl (take_ofW HT_.out HW_.out (by kernel_rfl)) (fun _ _ _ h => h) (Or.inl ⟨by rfl, ?_⟩) hHeld ?_ ?_
                rotate_left
                · rintro w' ⟨s0, s1, s2, s3, s4, s5⟩
                  go_simp
                  with_reducible rfl
                rotate_left
                · simp only [Act.put, List.setIfInBounds_toArray, List.set_cons_zero, List.set_cons_succ, i64_w, i32_w]
                  rfl
                refine one_ (i := 1) (N := some 28) #[true, true, false, true, false, false, false, false, false, false] rfl rfl (one_of HT_.out (by kernel_rfl)) (by decide) (fun K hK => ?_)
                refine goes_ Tryz.func16 (by kernel_rfl) rfl #[.int .i64 a0] (by rfl) rfl rfl (by (try simp only [List.map_toArray, List.map_cons, List.map_nil]); first | done | rfl | (simp only [List.length_drop, List.length_take]; rfl)) ?_
                with_reducible refine (spec_Decimal.calls kj2 a0 t298 _ A13.out).mono ?_
                rintro e w' ⟨rfl, ⟨nd, rfl⟩⟩
                refine ⟨_, rfl, ?_⟩
                refine hK.out _ _ ⟨(blk_cell BK290.out 0).trans rfl, (blk_cell BK290.out 1).trans rfl, (blk_cell BK290.out 2).trans rfl, (blk_cell BK290.out 3).trans rfl, (blk_cell BK290.out 4).trans rfl, (blk_cell BK290.out 5).trans rfl⟩ (fun hHeld => ?_)
                clear hK K
                refine norm_ (a' := ?_) ?_ ?_
                rotate_left
                · show Act.put _ (some 28) _ = _
                  simp only [Act.put, List.setIfInBounds_toArray, List.set_cons_zero, List.set_cons_succ, i64_w, i32_w]
                  rfl
                refine one_ (i := 2) (N := some 29) #[true, true, true, true, false, false, false, false, false, false] rfl rfl (one_of HT_.out (by kernel_rfl)) (by decide) (fun K hK => ?_)
                refine goes_ Tryz.func15 (by kernel_rfl) rfl #[.int .i64 5, .string t298] (by rfl) rfl rfl (by (try simp only [List.map_toArray, List.map_cons, List.map_nil]); first | done | rfl | (simp only [List.length_drop, List.length_take]; rfl)) ?_
                with_reducible refine (laws_stars.calls kj2 5 t298 t299 _ A14.out).mono ?_
                rintro e w' ⟨rfl, ⟨nd, rfl⟩⟩
                refine ⟨_, rfl, ?_⟩
                refine hK.out _ _ ⟨(blk_cell BK290.out 0).trans rfl, (blk_cell BK290.out 1).trans rfl, (blk_cell BK290.out 2).trans rfl, (blk_cell BK290.out 3).trans rfl, (blk_cell BK290.out 4).trans rfl, (blk_cell BK290.out 5).trans rfl⟩ (fun hHeld => ?_)
                clear hK K
                refine norm_ (a' := ?_) ?_ ?_
                rotate_left
                · show Act.put _ (some 29) _ = _
                  simp only [Act.put, List.setIfInBounds_toArray, List.set_cons_zero, List.set_cons_succ, i64_w, i32_w]
                  rfl
                refine one_ (i := 4) (N := some 31) #[true, true, true, true, true, false, false, false, false, false] rfl rfl (one_of HT_.out (by kernel_rfl)) (by decide) (fun K hK => ?_)
                refine goes_ Tryz.func24 (by kernel_rfl) rfl #[.string t299, .agg #[.int .i64 a1_0, .int .i64 a1_1, .int .i64 a1_2, .int .i64 0, .int .i64 0, .int .i64 0]] (by rfl) rfl rfl (by (try simp only [List.map_toArray, List.map_cons, List.map_nil]); first | done | rfl | (simp only [List.length_drop, List.length_take]; rfl)) ?_
                with_reducible refine (impl_Due.calls t299 a1_0 a1_1 a1_2 0 0 0 t300 true _ A15.out).mono ?_
                rintro e w57 ⟨rfl, hb⟩
                refine ⟨_, rfl, ?_⟩
                have n0_ := Aside0.mk (blk_below (g := gb290) (o := .cells #[.int .i64 a1_0, .int .i64 a1_1, .int .i64 a1_2, .int .i64 0, .int .i64 0, .int .i64 0] 23 (0, 0)) (by (with_reducible repeat (first | refine blk_drewN ?_ _ | refine blk_drew ?_ | refine blk_alloc ?_ _)); exact BK290.out) hb)
                have n1_ := Aside0.mk (below_step (by repeat (first | (with_reducible first | exact HB.out | apply below_alloc | apply pw_below_drewN | apply below_drew1 | refine below_set ?_ GE290.out) | exact HB.out)) hb)
                clear BK290
                clear HB
                have BK290 := n0_
                have HB := n1_
                clear n0_ n1_
                (try clear hb)
                (try clear hb2)
                (try clear hk)
                (try clear hi)
                refine hK.out _ _ ⟨(blk_cell BK290.out 0).trans rfl, (blk_cell BK290.out 1).trans rfl, (blk_cell BK290.out 2).trans rfl, (blk_cell BK290.out 3).trans rfl, (blk_cell BK290.out 4).trans rfl, (blk_cell BK290.out 5).trans rfl⟩ (fun hHeld => ?_)
                clear hK K
                refine norm_ (a' := ?_) ?_ ?_
                rotate_left
                · show Act.put _ (some 31) _ = _
                  simp only [Act.put, List.setIfInBounds_toArray, List.set_cons_zero, List.set_cons_succ, i64_w, i32_w]
                  rfl
                refine pure_ (i := 5) (N := some 26) (v := ?_) (a' := ?_) #[true, true, true, true, true, true, false, false, false, false] rfl rfl (any_of HT_.out (by kernel_rfl)) (fun _ _ _ h => h) (Or.inl ⟨by rfl, ?_⟩) ?_ ?_
                rotate_left
                · intro w'
                  go_simp
                  with_reducible rfl
                rotate_left
                · simp only [Act.put, List.setIfInBounds_toArray, List.set_cons_zero, List.set_cons_succ, i64_w, i32_w]
                  rfl
                refine pure_ (i := 6) (N := some 32) (v := ?_) (a' := ?_) #[true, true, true, true, true, true, true, false, false, false] rfl rfl (any_of HT_.out (by kernel_rfl)) (fun _ _ _ h => h) (Or.inl ⟨by rfl, ?_⟩) ?_ ?_
                rotate_left
                · intro w'
                  go_simp
                  with_reducible rfl
                rotate_left
                · simp only [Act.put, List.setIfInBounds_toArray, List.set_cons_zero, List.set_cons_succ, i64_w, i32_w]
                  rfl
                refine pure_ (i := 7) (N := some 33) (v := ?_) (a' := ?_) #[true, true, true, true, true, true, true, true, false, false] rfl rfl (any_of HT_.out (by kernel_rfl)) (fun _ _ _ h => h) (Or.inl ⟨by rfl, ?_⟩) ?_ ?_
                rotate_left
                · intro w'
                  go_simp
                  with_reducible rfl
                rotate_left
                · simp only [Act.put, List.setIfInBounds_toArray, List.set_cons_zero, List.set_cons_succ, i64_w, i32_w]
                  rfl
                refine pure_ (i := 8) (N := some 5) (v := ?_) (a' := ?_) #[true, true, true, true, true, true, true, true, true, false] rfl rfl (any_of HT_.out (by kernel_rfl)) (fun _ _ _ h => h) (Or.inl ⟨by rfl, ?_⟩) ?_ ?_
                rotate_left
                · intro w'
                  go_simp
                  with_reducible rfl
                rotate_left
                · simp only [Act.put, List.setIfInBounds_toArray, List.set_cons_zero, List.set_cons_succ, i64_w, i32_w]
                  rfl
                refine pure_ (i := 9) (N := some 6) (v := ?_) (a' := ?_) #[true, true, true, true, true, true, true, true, true, true] rfl rfl (any_of HT_.out (by kernel_rfl)) (fun _ _ _ h => h) (Or.inl ⟨by rfl, ?_⟩) ?_ ?_
                rotate_left
                · intro w'
                  go_simp
                  with_reducible rfl
                rotate_left
                · simp only [Act.put, List.setIfInBounds_toArray, List.set_cons_zero, List.set_cons_succ, i64_w, i32_w]
                  rfl
                refine done_ (done_of HT_.out (by kernel_rfl)) ?_
                try go_wp2
                have n0_ := Aside0.mk (blk_drew BK290.out)
                have n1_ := Aside0.mk (below_drew1 HB.out)
                clear BK290
                clear HB
                have BK290 := n0_
                have HB := n1_
                clear n0_ n1_
                refine start_ (n := 10) (S := fun w' => w'.cell? ⟨gb290, 0, none⟩ = some (.int .i64 a1_0) ∧ w'.cell? ⟨gb290, 1, none⟩ = some (.int .i64 a1_1) ∧ w'.cell? ⟨gb290, 2, none⟩ = some (.int .i64 a1_2) ∧ w'.cell? ⟨gb290, 3, none⟩ = some (.int .i64 0) ∧ w'.cell? ⟨gb290, 4, none⟩ = some (.int .i64 0) ∧ w'.cell? ⟨gb290, 5, none⟩ = some (.int .i64 0)) (ds := []) #[false, false, false, false, false, false, false, false, false, false] (by kernel_rfl) rfl rfl ⟨(blk_cell BK290.out 0).trans rfl, (blk_cell BK290.out 1).trans rfl, (blk_cell BK290.out 2).trans rfl, (blk_cell BK290.out 3).trans rfl, (blk_cell BK290.out 4).trans rfl, (blk_cell BK290.out 5).trans rfl⟩ (fun hHeld => ?_); refine with_tabW laws_FnDayNames.tab5 laws_FnDayNames.bits5 (fun HT_ HW_ => ?_)
                generalize w57.drew = w58 at BK290 HB hHeld ⊢
                refine pure_ (i := 0) (N := some 35) (v := ?_) (a' := ?_) #[true, false, false, false, false, false, false, false, false, false] rfl rfl (any_of HT_.out (by kernel_rfl)) (fun _ _ _ h => h) (Or.inl ⟨by rfl, ?_⟩) ?_ ?_
                rotate_left
                · intro w'
                  go_simp
                  with_reducible rfl
                rotate_left
                · simp only [Act.put, List.setIfInBounds_toArray, List.set_cons_zero, List.set_cons_succ, i64_w, i32_w]
                  rfl
                refine take_ (i := 3) (N := some 38) (v := ?_) (a' := ?_) #[true, false, false, true, false, false, false, false, false, false] rfl rfl (take_ofW HT_.out HW_.out (by kernel_rfl)) (fun _ _ _ h => h) (Or.inl ⟨by rfl, ?_⟩) hHeld ?_ ?_
                rotate_left
                · rintro w' ⟨s0, s1, s2, s3, s4, s5⟩
                  go_simp
                  with_reducible rfl
                rotate_left
                · simp only [Act.put, List.setIfInBounds_toArray, List.set_cons_zero, List.set_cons_succ, i64_w, i32_w]
                  rfl
                refine one_ (i := 1) (N := some 36) #[true, true, false, true, false, false, false, false, false, false] rfl rfl (one_of HT_.out (by kernel_rfl)) (by decide) (fun K hK => ?_)
                refine goes_ Tryz.func25 (by kernel_rfl) rfl #[.int .i64 a0] (by rfl) rfl rfl (by (try simp only [List.map_toArray, List.map_cons, List.map_nil]); first | done | rfl | (simp only [List.length_drop, List.length_take]; rfl)) ?_
                with_reducible refine (spec_DayName.calls a0 t302 _ A16.out).mono ?_
                rintro e w' ⟨rfl, ⟨nd, rfl⟩⟩
                refine ⟨_, rfl, ?_⟩
                refine hK.out _ _ ⟨(blk_cell BK290.out 0).trans rfl, (blk_cell BK290.out 1).trans rfl, (blk_cell BK290.out 2).trans rfl, (blk_cell BK290.out 3).trans rfl, (blk_cell BK290.out 4).trans rfl, (blk_cell BK290.out 5).trans rfl⟩ (fun hHeld => ?_)
                clear hK K
                refine norm_ (a' := ?_) ?_ ?_
                rotate_left
                · show Act.put _ (some 36) _ = _
                  simp only [Act.put, List.setIfInBounds_toArray, List.set_cons_zero, List.set_cons_succ, i64_w, i32_w]
                  rfl
                refine one_ (i := 2) (N := some 37) #[true, true, true, true, false, false, false, false, false, false] rfl rfl (one_of HT_.out (by kernel_rfl)) (by decide) (fun K hK => ?_)
                refine goes_ Tryz.func15 (by kernel_rfl) rfl #[.int .i64 5, .string t302] (by rfl) rfl rfl (by (try simp only [List.map_toArray, List.map_cons, List.map_nil]); first | done | rfl | (simp only [List.length_drop, List.length_take]; rfl)) ?_
                with_reducible refine (laws_stars.calls kj2 5 t302 t303 _ A17.out).mono ?_
                rintro e w' ⟨rfl, ⟨nd, rfl⟩⟩
                refine ⟨_, rfl, ?_⟩
                refine hK.out _ _ ⟨(blk_cell BK290.out 0).trans rfl, (blk_cell BK290.out 1).trans rfl, (blk_cell BK290.out 2).trans rfl, (blk_cell BK290.out 3).trans rfl, (blk_cell BK290.out 4).trans rfl, (blk_cell BK290.out 5).trans rfl⟩ (fun hHeld => ?_)
                clear hK K
                refine norm_ (a' := ?_) ?_ ?_
                rotate_left
                · show Act.put _ (some 37) _ = _
                  simp only [Act.put, List.setIfInBounds_toArray, List.set_cons_zero, List.set_cons_succ, i64_w, i32_w]
                  rfl
                refine one_ (i := 4) (N := some 39) #[true, true, true, true, true, false, false, false, false, false] rfl rfl (one_of HT_.out (by kernel_rfl)) (by decide) (fun K hK => ?_)
                refine goes_ Tryz.func24 (by kernel_rfl) rfl #[.string t303, .agg #[.int .i64 a1_0, .int .i64 a1_1, .int .i64 a1_2, .int .i64 0, .int .i64 0, .int .i64 0]] (by rfl) rfl rfl (by (try simp only [List.map_toArray, List.map_cons, List.map_nil]); first | done | rfl | (simp only [List.length_drop, List.length_take]; rfl)) ?_
                with_reducible refine (impl_Due.calls t303 a1_0 a1_1 a1_2 0 0 0 t304 true _ A18.out).mono ?_
                rintro e w59 ⟨rfl, hb⟩
                refine ⟨_, rfl, ?_⟩
                have n0_ := Aside0.mk (blk_below (g := gb290) (o := .cells #[.int .i64 a1_0, .int .i64 a1_1, .int .i64 a1_2, .int .i64 0, .int .i64 0, .int .i64 0] 23 (0, 0)) (by (with_reducible repeat (first | refine blk_drewN ?_ _ | refine blk_drew ?_ | refine blk_alloc ?_ _)); exact BK290.out) hb)
                have n1_ := Aside0.mk (below_step (by repeat (first | (with_reducible first | exact HB.out | apply below_alloc | apply pw_below_drewN | apply below_drew1 | refine below_set ?_ GE290.out) | exact HB.out)) hb)
                clear BK290
                clear HB
                have BK290 := n0_
                have HB := n1_
                clear n0_ n1_
                (try clear hb)
                (try clear hb2)
                (try clear hk)
                (try clear hi)
                refine hK.out _ _ ⟨(blk_cell BK290.out 0).trans rfl, (blk_cell BK290.out 1).trans rfl, (blk_cell BK290.out 2).trans rfl, (blk_cell BK290.out 3).trans rfl, (blk_cell BK290.out 4).trans rfl, (blk_cell BK290.out 5).trans rfl⟩ (fun hHeld => ?_)
                clear hK K
                refine norm_ (a' := ?_) ?_ ?_
                rotate_left
                · show Act.put _ (some 39) _ = _
                  simp only [Act.put, List.setIfInBounds_toArray, List.set_cons_zero, List.set_cons_succ, i64_w, i32_w]
                  rfl
                refine pure_ (i := 5) (N := some 34) (v := ?_) (a' := ?_) #[true, true, true, true, true, true, false, false, false, false] rfl rfl (any_of HT_.out (by kernel_rfl)) (fun _ _ _ h => h) (Or.inl ⟨by rfl, ?_⟩) ?_ ?_
                rotate_left
                · intro w'
                  go_simp
                  with_reducible rfl
                rotate_left
                · simp only [Act.put, List.setIfInBounds_toArray, List.set_cons_zero, List.set_cons_succ, i64_w, i32_w]
                  rfl
                refine pure_ (i := 6) (N := some 40) (v := ?_) (a' := ?_) #[true, true, true, true, true, true, true, false, false, false] rfl rfl (any_of HT_.out (by kernel_rfl)) (fun _ _ _ h => h) (Or.inl ⟨by rfl, ?_⟩) ?_ ?_
                rotate_left
                · intro w'
                  go_simp
                  with_reducible rfl
                rotate_left
                · simp only [Act.put, List.setIfInBounds_toArray, List.set_cons_zero, List.set_cons_succ, i64_w, i32_w]
                  rfl
                refine pure_ (i := 7) (N := some 41) (v := ?_) (a' := ?_) #[true, true, true, true, true, true, true, true, false, false] rfl rfl (any_of HT_.out (by kernel_rfl)) (fun _ _ _ h => h) (Or.inl ⟨by rfl, ?_⟩) ?_ ?_
                rotate_left
                · intro w'
                  go_simp
                  with_reducible rfl
                rotate_left
                · simp only [Act.put, List.setIfInBounds_toArray, List.set_cons_zero, List.set_cons_succ, i64_w, i32_w]
                  rfl
                refine pure_ (i := 8) (N := some 7) (v := ?_) (a' := ?_) #[true, true, true, true, true, true, true, true, true, false] rfl rfl (any_of HT_.out (by kernel_rfl)) (fun _ _ _ h => h) (Or.inl ⟨by rfl, ?_⟩) ?_ ?_
                rotate_left
                · intro w'
                  go_simp
                  with_reducible rfl
                rotate_left
                · simp only [Act.put, List.setIfInBounds_toArray, List.set_cons_zero, List.set_cons_succ, i64_w, i32_w]
                  rfl
                refine pure_ (i := 9) (N := some 8) (v := ?_) (a' := ?_) #[true, true, true, true, true, true, true, true, true, true] rfl rfl (any_of HT_.out (by kernel_rfl)) (fun _ _ _ h => h) (Or.inl ⟨by rfl, ?_⟩) ?_ ?_
                rotate_left
                · intro w'
                  go_simp
                  with_reducible rfl
                rotate_left
                · simp only [Act.put, List.setIfInBounds_toArray, List.set_cons_zero, List.set_cons_succ, i64_w, i32_w]
                  rfl
                refine done_ (done_of HT_.out (by kernel_rfl)) ?_
                try go_wp2
                have n0_ := Aside0.mk (blk_drew BK290.out)
                have n1_ := Aside0.mk (below_drew1 HB.out)
                clear BK290
                clear HB
                have BK290 := n0_
                have HB := n1_
                clear n0_ n1_
                refine start_ (n := 11) (S := fun w' => w'.cell? ⟨gb290, 0, none⟩ = some (.int .i64 a1_0) ∧ w'.cell? ⟨gb290, 1, none⟩ = some (.int .i64 a1_1) ∧ w'.cell? ⟨gb290, 2, none⟩ = some (.int .i64 a1_2) ∧ w'.cell? ⟨gb290, 3, none⟩ = some (.int .i64 0) ∧ w'.cell? ⟨gb290, 4, none⟩ = some (.int .i64 0) ∧ w'.cell? ⟨gb290, 5, none⟩ = some (.int .i64 0)) (ds := []) #[false, false, false, false, false, false, false, false, false, false, false] (by kernel_rfl) rfl rfl ⟨(blk_cell BK290.out 0).trans rfl, (blk_cell BK290.out 1).trans rfl, (blk_cell BK290.out 2).trans rfl, (blk_cell BK290.out 3).trans rfl, (blk_cell BK290.out 4).trans rfl, (blk_cell BK290.out 5).trans rfl⟩ (fun hHeld => ?_); refine with_tabW laws_FnDayNames.tab6 laws_FnDayNames.bits6 (fun HT_ HW_ => ?_)
                generalize w59.drew = w60 at BK290 HB hHeld ⊢
                refine pure_ (i := 0) (N := some 43) (v := ?_) (a' := ?_) #[true, false, false, false, false, false, false, false, false, false, false] rfl rfl (any_of HT_.out (by kernel_rfl)) (fun _ _ _ h => h) (Or.inl ⟨by rfl, ?_⟩) ?_ ?_
                rotate_left
                · intro w'
                  go_simp
                  with_reducible rfl
                rotate_left
                · simp only [Act.put, List.setIfInBounds_toArray, List.set_cons_zero, List.set_cons_succ, i64_w, i32_w]
                  rfl
                refine take_ (i := 4) (N := some 47) (v := ?_) (a' := ?_) #[true, false, false, false, true, false, false, false, false, false, false] rfl rfl (take_ofW HT_.out HW_.out (by kernel_rfl)) (fun _ _ _ h => h) (Or.inl ⟨by rfl, ?_⟩) hHeld ?_ ?_
                rotate_left
                · rintro w' ⟨s0, s1, s2, s3, s4, s5⟩
                  go_simp
                  with_reducible rfl
                rotate_left
                · simp only [Act.put, List.setIfInBounds_toArray, List.set_cons_zero, List.set_cons_succ, i64_w, i32_w]
                  rfl
                refine one_ (i := 1) (N := some 44) #[true, true, false, false, true, false, false, false, false, false, false] rfl rfl (one_of HT_.out (by kernel_rfl)) (by decide) (fun K hK => ?_)
                refine goes_ Tryz.func25 (by kernel_rfl) rfl #[.int .i64 a0] (by rfl) rfl rfl (by (try simp only [List.map_toArray, List.map_cons, List.map_nil]); first | done | rfl | (simp only [List.length_drop, List.length_take]; rfl)) ?_
                with_reducible refine (spec_DayName.calls a0 t306 _ A19.out).mono ?_
                rintro e w' ⟨rfl, ⟨nd, rfl⟩⟩
                refine ⟨_, rfl, ?_⟩
                refine hK.out _ _ ⟨(blk_cell BK290.out 0).trans rfl, (blk_cell BK290.out 1).trans rfl, (blk_cell BK290.out 2).trans rfl, (blk_cell BK290.out 3).trans rfl, (blk_cell BK290.out 4).trans rfl, (blk_cell BK290.out 5).trans rfl⟩ (fun hHeld => ?_)
                clear hK K
                refine norm_ (a' := ?_) ?_ ?_
                rotate_left
                · show Act.put _ (some 44) _ = _
                  simp only [Act.put, List.setIfInBounds_toArray, List.set_cons_zero, List.set_cons_succ, i64_w, i32_w]
                  rfl
                refine one_ (i := 2) (N := some 45) #[true, true, true, false, true, false, false, false, false, false, false] rfl rfl (one_of HT_.out (by kernel_rfl)) (by decide) (fun K hK => ?_)
                refine goes_ Tryz.func26 (by kernel_rfl) rfl #[.string t306] (by rfl) rfl rfl (by (try simp only [List.map_toArray, List.map_cons, List.map_nil]); first | done | rfl | (simp only [List.length_drop, List.length_take]; rfl)) ?_
                with_reducible refine (spec_Lower.calls t306 t307 _ A20.out).mono ?_
                rintro e w61 ⟨rfl, hb⟩
                refine ⟨_, rfl, ?_⟩
                have n0_ := Aside0.mk (blk_below (g := gb290) (o := .cells #[.int .i64 a1_0, .int .i64 a1_1, .int .i64 a1_2, .int .i64 0, .int .i64 0, .int .i64 0] 23 (0, 0)) (by (with_reducible repeat (first | refine blk_drewN ?_ _ | refine blk_drew ?_ | refine blk_alloc ?_ _)); exact BK290.out) hb)
                have n1_ := Aside0.mk (below_step (by repeat (first | (with_reducible first | exact HB.out | apply below_alloc | apply pw_below_drewN | apply below_drew1 | refine below_set ?_ GE290.out) | exact HB.out)) hb)
                clear BK290
                clear HB
                have BK290 := n0_
                have HB := n1_
                clear n0_ n1_
                (try clear hb)
                (try clear hb2)
                (try clear hk)
                (try clear hi)
                refine hK.out _ _ ⟨(blk_cell BK290.out 0).trans rfl, (blk_cell BK290.out 1).trans rfl, (blk_cell BK290.out 2).trans rfl, (blk_cell BK290.out 3).trans rfl, (blk_cell BK290.out 4).trans rfl, (blk_cell BK290.out 5).trans rfl⟩ (fun hHeld => ?_)
                clear hK K
                refine norm_ (a' := ?_) ?_ ?_
                rotate_left
                · show Act.put _ (some 45) _ = _
                  simp only [Act.put, List.setIfInBounds_toArray, List.set_cons_zero, List.set_cons_succ, i64_w, i32_w]
                  rfl
                refine one_ (i := 3) (N := some 46) #[true, true, true, true, true, false, false, false, false, false, false] rfl rfl (one_of HT_.out (by kernel_rfl)) (by decide) (fun K hK => ?_)
                refine goes_ Tryz.func15 (by kernel_rfl) rfl #[.int .i64 5, .string t307] (by rfl) rfl rfl (by (try simp only [List.map_toArray, List.map_cons, List.map_nil]); first | done | rfl | (simp only [List.length_drop, List.length_take]; rfl)) ?_
                with_reducible refine (laws_stars.calls kj2 5 t307 t308 _ A21.out).mono ?_
                rintro e w' ⟨rfl, ⟨nd, rfl⟩⟩
                refine ⟨_, rfl, ?_⟩
                refine hK.out _ _ ⟨(blk_cell BK290.out 0).trans rfl, (blk_cell BK290.out 1).trans rfl, (blk_cell BK290.out 2).trans rfl, (blk_cell BK290.out 3).trans rfl, (blk_cell BK290.out 4).trans rfl, (blk_cell BK290.out 5).trans rfl⟩ (fun hHeld => ?_)
                clear hK K
                refine norm_ (a' := ?_) ?_ ?_
                rotate_left
                · show Act.put _ (some 46) _ = _
                  simp only [Act.put, List.setIfInBounds_toArray, List.set_cons_zero, List.set_cons_succ, i64_w, i32_w]
                  rfl
                refine one_ (i := 5) (N := some 48) #[true, true, true, true, true, true, false, false, false, false, false] rfl rfl (one_of HT_.out (by kernel_rfl)) (by decide) (fun K hK => ?_)
                refine goes_ Tryz.func24 (by kernel_rfl) rfl #[.string t308, .agg #[.int .i64 a1_0, .int .i64 a1_1, .int .i64 a1_2, .int .i64 0, .int .i64 0, .int .i64 0]] (by rfl) rfl rfl (by (try simp only [List.map_toArray, List.map_cons, List.map_nil]); first | done | rfl | (simp only [List.length_drop, List.length_take]; rfl)) ?_
                with_reducible refine (impl_Due.calls t308 a1_0 a1_1 a1_2 0 0 0 t309 true _ A22.out).mono ?_
                rintro e w62 ⟨rfl, hb⟩
                refine ⟨_, rfl, ?_⟩
                have n0_ := Aside0.mk (blk_below (g := gb290) (o := .cells #[.int .i64 a1_0, .int .i64 a1_1, .int .i64 a1_2, .int .i64 0, .int .i64 0, .int .i64 0] 23 (0, 0)) (by (with_reducible repeat (first | refine blk_drewN ?_ _ | refine blk_drew ?_ | refine blk_alloc ?_ _)); exact BK290.out) hb)
                have n1_ := Aside0.mk (below_step (by repeat (first | (with_reducible first | exact HB.out | apply below_alloc | apply pw_below_drewN | apply below_drew1 | refine below_set ?_ GE290.out) | exact HB.out)) hb)
                clear BK290
                clear HB
                have BK290 := n0_
                have HB := n1_
                clear n0_ n1_
                (try clear hb)
                (try clear hb2)
                (try clear hk)
                (try clear hi)
                refine hK.out _ _ ⟨(blk_cell BK290.out 0).trans rfl, (blk_cell BK290.out 1).trans rfl, (blk_cell BK290.out 2).trans rfl, (blk_cell BK290.out 3).trans rfl, (blk_cell BK290.out 4).trans rfl, (blk_cell BK290.out 5).trans rfl⟩ (fun hHeld => ?_)
                clear hK K
                refine norm_ (a' := ?_) ?_ ?_
                rotate_left
                · show Act.put _ (some 48) _ = _
                  simp only [Act.put, List.setIfInBounds_toArray, List.set_cons_zero, List.set_cons_succ, i64_w, i32_w]
                  rfl
                refine pure_ (i := 6) (N := some 42) (v := ?_) (a' := ?_) #[true, true, true, true, true, true, true, false, false, false, false] rfl rfl (any_of HT_.out (by kernel_rfl)) (fun _ _ _ h => h) (Or.inl ⟨by rfl, ?_⟩) ?_ ?_
                rotate_left
                · intro w'
                  go_simp
                  with_reducible rfl
                rotate_left
                · simp only [Act.put, List.setIfInBounds_toArray, List.set_cons_zero, List.set_cons_succ, i64_w, i32_w]
                  rfl
                refine pure_ (i := 7) (N := some 49) (v := ?_) (a' := ?_) #[true, true, true, true, true, true, true, true, false, false, false] rfl rfl (any_of HT_.out (by kernel_rfl)) (fun _ _ _ h => h) (Or.inl ⟨by rfl, ?_⟩) ?_ ?_
                rotate_left
                · intro w'
                  go_simp
                  with_reducible rfl
                rotate_left
                · simp only [Act.put, List.setIfInBounds_toArray, List.set_cons_zero, List.set_cons_succ, i64_w, i32_w]
                  rfl
                refine pure_ (i := 8) (N := some 50) (v := ?_) (a' := ?_) #[true, true, true, true, true, true, true, true, true, false, false] rfl rfl (any_of HT_.out (by kernel_rfl)) (fun _ _ _ h => h) (Or.inl ⟨by rfl, ?_⟩) ?_ ?_
                rotate_left
                · intro w'
                  go_simp
                  with_reducible rfl
                rotate_left
                · simp only [Act.put, List.setIfInBounds_toArray, List.set_cons_zero, List.set_cons_succ, i64_w, i32_w]
                  rfl
                refine pure_ (i := 9) (N := some 9) (v := ?_) (a' := ?_) #[true, true, true, true, true, true, true, true, true, true, false] rfl rfl (any_of HT_.out (by kernel_rfl)) (fun _ _ _ h => h) (Or.inl ⟨by rfl, ?_⟩) ?_ ?_
                rotate_left
                · intro w'
                  go_simp
                  with_reducible rfl
                rotate_left
                · simp only [Act.put, List.setIfInBounds_toArray, List.set_cons_zero, List.set_cons_succ, i64_w, i32_w]
                  rfl
                refine pure_ (i := 10) (N := some 10) (v := ?_) (a' := ?_) #[true, true, true, true, true, true, true, true, true, true, true] rfl rfl (any_of HT_.out (by kernel_rfl)) (fun _ _ _ h => h) (Or.inl ⟨by rfl, ?_⟩) ?_ ?_
                rotate_left
                · intro w'
                  go_simp
                  with_reducible rfl
                rotate_left
                · simp only [Act.put, List.setIfInBounds_toArray, List.set_cons_zero, List.set_cons_succ, i64_w, i32_w]
                  rfl
                refine done_ (done_of HT_.out (by kernel_rfl)) ?_
                have hcz63_0 : w62.cell? ⟨gb290, 0, none⟩ = some (.int .i64 a1_0) := (blk_cell BK290.out 0).trans rfl
                have hcz63_1 : w62.cell? ⟨gb290, 1, none⟩ = some (.int .i64 a1_1) := (blk_cell BK290.out 1).trans rfl
                have hcz63_2 : w62.cell? ⟨gb290, 2, none⟩ = some (.int .i64 a1_2) := (blk_cell BK290.out 2).trans rfl
                have hcz63_3 : w62.cell? ⟨gb290, 3, none⟩ = some (.int .i64 0) := (blk_cell BK290.out 3).trans rfl
                have hcz63_4 : w62.cell? ⟨gb290, 4, none⟩ = some (.int .i64 0) := (blk_cell BK290.out 4).trans rfl
                have hcz63_5 : w62.cell? ⟨gb290, 5, none⟩ = some (.int .i64 0) := (blk_cell BK290.out 5).trans rfl
                have hfz63_0 := blk_frozen BK290.out 0
                have hfz63_1 := blk_frozen BK290.out 1
                have hfz63_2 := blk_frozen BK290.out 2
                have hfz63_3 := blk_frozen BK290.out 3
                have hfz63_4 := blk_frozen BK290.out 4
                have hfz63_5 := blk_frozen BK290.out 5
                try go_wp2_with (first | (go_at_call 13; (with_reducible refine (laws_moment.calls a1_0 a1_1 a1_2 0 0 0 t311 t312 t313 t314 t315 t316 _ A26.out).mono ?_); rintro e w64 ⟨rfl, hb⟩; have n0_ := Aside0.mk (blk_below (g := gb290) (o := .cells #[.int .i64 a1_0, .int .i64 a1_1, .int .i64 a1_2, .int .i64 0, .int .i64 0, .int .i64 0] 23 (0, 0)) (by (with_reducible repeat (first | refine blk_drewN ?_ _ | refine blk_drew ?_ | refine blk_alloc ?_ _)); exact BK290.out) hb); have n1_ := Aside0.mk (below_step (by repeat (first | (with_reducible first | exact HB.out | apply below_alloc | apply pw_below_drewN | apply below_drew1 | refine below_set ?_ GE290.out) | exact HB.out)) hb); clear BK290; clear HB; have BK290 := n0_; have HB := n1_; clear n0_ n1_; (try clear hb); (try clear hb2); (try clear hk); (try clear hi)) | (go_at_call 27; (with_reducible refine (laws_numbers.calls kj2 t311 t312 t313 t314 t315 t316 t317 t318 t319 t320 t321 t322 _ A27.out).mono ?_); rintro e w65 ⟨rfl, hb⟩; have n0_ := Aside0.mk (blk_below (g := gb290) (o := .cells #[.int .i64 a1_0, .int .i64 a1_1, .int .i64 a1_2, .int .i64 0, .int .i64 0, .int .i64 0] 23 (0, 0)) (by (with_reducible repeat (first | refine blk_drewN ?_ _ | refine blk_drew ?_ | refine blk_alloc ?_ _)); exact BK290.out) hb); have n1_ := Aside0.mk (below_step (by repeat (first | (with_reducible first | exact HB.out | apply below_alloc | apply pw_below_drewN | apply below_drew1 | refine below_set ?_ GE290.out) | exact HB.out)) hb); clear BK290; clear HB; have BK290 := n0_; have HB := n1_; clear n0_ n1_; (try clear hb); (try clear hb2); (try clear hk); (try clear hi)))
                go_ret
                exact ⟨by first | rfl | (simp [errW_none, errW_some] <;> rfl) | (simp [*, errW_none, errW_some] <;> rfl), by repeat (first | (with_reducible first | exact HB.out | apply below_alloc | apply pw_below_drewN | apply below_drew1 | refine below_set ?_ GE290.out) | exact HB.out)⟩
            · replace c25 := Bool.eq_false_iff.mpr c25
              subst c25
              have H1 : (some false) = some r := by rw [if_neg (show ¬ (false = true) by decide)] at H; exact H
              clear H
              have H := H1
              clear H1
              obtain rfl := Option.some.inj H
              have hcz66_0 : wc.cell? ⟨gb290, 0, none⟩ = some (.int .i64 a1_0) := (blk_cell BK290.out 0).trans rfl
              have hcz66_1 : wc.cell? ⟨gb290, 1, none⟩ = some (.int .i64 a1_1) := (blk_cell BK290.out 1).trans rfl
              have hcz66_2 : wc.cell? ⟨gb290, 2, none⟩ = some (.int .i64 a1_2) := (blk_cell BK290.out 2).trans rfl
              have hcz66_3 : wc.cell? ⟨gb290, 3, none⟩ = some (.int .i64 a1_3) := (blk_cell BK290.out 3).trans rfl
              have hcz66_4 : wc.cell? ⟨gb290, 4, none⟩ = some (.int .i64 a1_4) := (blk_cell BK290.out 4).trans rfl
              have hcz66_5 : wc.cell? ⟨gb290, 5, none⟩ = some (.int .i64 a1_5) := (blk_cell BK290.out 5).trans rfl
              have hfz66_0 := blk_frozen BK290.out 0
              have hfz66_1 := blk_frozen BK290.out 1
              have hfz66_2 := blk_frozen BK290.out 2
              have hfz66_3 := blk_frozen BK290.out 3
              have hfz66_4 := blk_frozen BK290.out 4
              have hfz66_5 := blk_frozen BK290.out 5
              try go_wp2
              have n0_ : Aside0 ((((wc.setCell ⟨gb290, 3, none⟩ (.int .i64 0)).setCell ⟨gb290, 4, none⟩ (.int .i64 0)).setCell ⟨gb290, 5, none⟩ (.int .i64 0)).heap[gb290]? = some (.cells #[.int .i64 a1_0, .int .i64 a1_1, .int .i64 a1_2, .int .i64 0, .int .i64 0, .int .i64 0] 23 (0, 0))) := ⟨by (with_reducible repeat (first | refine blk_drewN ?_ _ | refine blk_drew ?_ | refine blk_alloc ?_ _)); refine blk_put (cs := #[.int .i64 a1_0, .int .i64 a1_1, .int .i64 a1_2, .int .i64 0, .int .i64 0, .int .i64 a1_5]) ?_ 5 _ rfl; (with_reducible repeat (first | refine blk_drewN ?_ _ | refine blk_drew ?_ | refine blk_alloc ?_ _)); refine blk_put (cs := #[.int .i64 a1_0, .int .i64 a1_1, .int .i64 a1_2, .int .i64 0, .int .i64 a1_4, .int .i64 a1_5]) ?_ 4 _ rfl; (with_reducible repeat (first | refine blk_drewN ?_ _ | refine blk_drew ?_ | refine blk_alloc ?_ _)); refine blk_put (cs := #[.int .i64 a1_0, .int .i64 a1_1, .int .i64 a1_2, .int .i64 a1_3, .int .i64 a1_4, .int .i64 a1_5]) ?_ 3 _ rfl; (with_reducible repeat (first | refine blk_drewN ?_ _ | refine blk_drew ?_ | refine blk_alloc ?_ _)); exact BK290.out⟩
              have n1_ : Aside0 (Below w.heap.size w (((wc.setCell ⟨gb290, 3, none⟩ (.int .i64 0)).setCell ⟨gb290, 4, none⟩ (.int .i64 0)).setCell ⟨gb290, 5, none⟩ (.int .i64 0))) := ⟨by repeat (first | (with_reducible first | exact HB.out | apply below_alloc | apply pw_below_drewN | apply below_drew1 | refine below_set ?_ GE290.out) | exact HB.out)⟩
              (try clear BK290)
              (try clear HB)
              generalize (((wc.setCell ⟨gb290, 3, none⟩ (.int .i64 0)).setCell ⟨gb290, 4, none⟩ (.int .i64 0)).setCell ⟨gb290, 5, none⟩ (.int .i64 0)) = w67 at n0_ n1_ ⊢
              have BK290 := n0_
              have HB := n1_
              clear n0_ n1_
              have n0_ := Aside0.mk (blk_drew BK290.out)
              have n1_ := Aside0.mk (below_drew1 HB.out)
              clear BK290
              clear HB
              have BK290 := n0_
              have HB := n1_
              clear n0_ n1_
              refine start_ (n := 10) (S := fun w' => w'.cell? ⟨gb290, 0, none⟩ = some (.int .i64 a1_0) ∧ w'.cell? ⟨gb290, 1, none⟩ = some (.int .i64 a1_1) ∧ w'.cell? ⟨gb290, 2, none⟩ = some (.int .i64 a1_2) ∧ w'.cell? ⟨gb290, 3, none⟩ = some (.int .i64 0) ∧ w'.cell? ⟨gb290, 4, none⟩ = some (.int .i64 0) ∧ w'.cell? ⟨gb290, 5, none⟩ = some (.int .i64 0)) (ds := []) #[false, false, false, false, false, false, false, false, false, false] (by kernel_rfl) rfl rfl ⟨(blk_cell BK290.out 0).trans rfl, (blk_cell BK290.out 1).trans rfl, (blk_cell BK290.out 2).trans rfl, (blk_cell BK290.out 3).trans rfl, (blk_cell BK290.out 4).trans rfl, (blk_cell BK290.out 5).trans rfl⟩ (fun hHeld => ?_); refine with_tabW laws_FnDayNames.tab4 laws_FnDayNames.bits4 (fun HT_ HW_ => ?_)
              generalize w67.drew = w68 at BK290 HB hHeld ⊢
              refine pure_ (i := 0) (N := some 27) (v := ?_) (a' := ?_) #[true, false, false, false, false, false, false, false, false, false] rfl rfl (any_of HT_.out (by kernel_rfl)) (fun _ _ _ h => h) (Or.inl ⟨by rfl, ?_⟩) ?_ ?_
              rotate_left
              · intro w'
                go_simp
                with_reducible rfl
              rotate_left
              · simp only [Act.put, List.setIfInBounds_toArray, List.set_cons_zero, List.set_cons_succ, i64_w, i32_w]
                rfl
              refine take_ (i := 3) (N := some 30) (v := ?_) (a' := ?_) #[true, false, false, true, false, false, false, false, false, false] rfl rfl (take_ofW HT_.out HW_.out (by kernel_rfl)) (fun _ _ _ h => h) (Or.inl ⟨by rfl, ?_⟩) hHeld ?_ ?_
              rotate_left
              · rintro w' ⟨s0, s1, s2, s3, s4, s5⟩
                go_simp
                with_reducible rfl
              rotate_left
              · simp only [Act.put, List.setIfInBounds_toArray, List.set_cons_zero, List.set_cons_succ, i64_w, i32_w]
                rfl
              refine one_ (i := 1) (N := some 28) #[true, true, false, true, false, false, false, false, false, false] rfl rfl (one_of HT_.out (by kernel_rfl)) (by decide) (fun K hK => ?_)
              refine goes_ Tryz.func16 (by kernel_rfl) rfl #[.int .i64 a0] (by rfl) rfl rfl (by (try simp only [List.map_toArray, List.map_cons, List.map_nil]); first | done | rfl | (simp only [List.length_drop, List.length_take]; rfl)) ?_
              with_reducible refine (spec_Decimal.calls kj2 a0 t298 _ A13.out).mono ?_
              rintro e w' ⟨rfl, ⟨nd, rfl⟩⟩
              refine ⟨_, rfl, ?_⟩
              refine hK.out _ _ ⟨(blk_cell BK290.out 0).trans rfl, (blk_cell BK290.out 1).trans rfl, (blk_cell BK290.out 2).trans rfl, (blk_cell BK290.out 3).trans rfl, (blk_cell BK290.out 4).trans rfl, (blk_cell BK290.out 5).trans rfl⟩ (fun hHeld => ?_)
              clear hK K
              refine norm_ (a' := ?_) ?_ ?_
              rotate_left
              · show Act.put _ (some 28) _ = _
                simp only [Act.put, List.setIfInBounds_toArray, List.set_cons_zero, List.set_cons_succ, i64_w, i32_w]
                rfl
              refine one_ (i := 2) (N := some 29) #[true, true, true, true, false, false, false, false, false, false] rfl rfl (one_of HT_.out (by kernel_rfl)) (by decide) (fun K hK => ?_)
              refine goes_ Tryz.func15 (by kernel_rfl) rfl #[.int .i64 5, .string t298] (by rfl) rfl rfl (by (try simp only [List.map_toArray, List.map_cons, List.map_nil]); first | done | rfl | (simp only [List.length_drop, List.length_take]; rfl)) ?_
              with_reducible refine (laws_stars.calls kj2 5 t298 t299 _ A14.out).mono ?_
              rintro e w' ⟨rfl, ⟨nd, rfl⟩⟩
              refine ⟨_, rfl, ?_⟩
              refine hK.out _ _ ⟨(blk_cell BK290.out 0).trans rfl, (blk_cell BK290.out 1).trans rfl, (blk_cell BK290.out 2).trans rfl, (blk_cell BK290.out 3).trans rfl, (blk_cell BK290.out 4).trans rfl, (blk_cell BK290.out 5).trans rfl⟩ (fun hHeld => ?_)
              clear hK K
              refine norm_ (a' := ?_) ?_ ?_
              rotate_left
              · show Act.put _ (some 29) _ = _
                simp only [Act.put, List.setIfInBounds_toArray, List.set_cons_zero, List.set_cons_succ, i64_w, i32_w]
                rfl
              refine one_ (i := 4) (N := some 31) #[true, true, true, true, true, false, false, false, false, false] rfl rfl (one_of HT_.out (by kernel_rfl)) (by decide) (fun K hK => ?_)
              refine goes_ Tryz.func24 (by kernel_rfl) rfl #[.string t299, .agg #[.int .i64 a1_0, .int .i64 a1_1, .int .i64 a1_2, .int .i64 0, .int .i64 0, .int .i64 0]] (by rfl) rfl rfl (by (try simp only [List.map_toArray, List.map_cons, List.map_nil]); first | done | rfl | (simp only [List.length_drop, List.length_take]; rfl)) ?_
              with_reducible refine (impl_Due.calls t299 a1_0 a1_1 a1_2 0 0 0 t300 true _ A15.out).mono ?_
              rintro e w69 ⟨rfl, hb⟩
              refine ⟨_, rfl, ?_⟩
              have n0_ := Aside0.mk (blk_below (g := gb290) (o := .cells #[.int .i64 a1_0, .int .i64 a1_1, .int .i64 a1_2, .int .i64 0, .int .i64 0, .int .i64 0] 23 (0, 0)) (by (with_reducible repeat (first | refine blk_drewN ?_ _ | refine blk_drew ?_ | refine blk_alloc ?_ _)); exact BK290.out) hb)
              have n1_ := Aside0.mk (below_step (by repeat (first | (with_reducible first | exact HB.out | apply below_alloc | apply pw_below_drewN | apply below_drew1 | refine below_set ?_ GE290.out) | exact HB.out)) hb)
              clear BK290
              clear HB
              have BK290 := n0_
              have HB := n1_
              clear n0_ n1_
              (try clear hb)
              (try clear hb2)
              (try clear hk)
              (try clear hi)
              refine hK.out _ _ ⟨(blk_cell BK290.out 0).trans rfl, (blk_cell BK290.out 1).trans rfl, (blk_cell BK290.out 2).trans rfl, (blk_cell BK290.out 3).trans rfl, (blk_cell BK290.out 4).trans rfl, (blk_cell BK290.out 5).trans rfl⟩ (fun hHeld => ?_)
              clear hK K
              refine norm_ (a' := ?_) ?_ ?_
              rotate_left
              · show Act.put _ (some 31) _ = _
                simp only [Act.put, List.setIfInBounds_toArray, List.set_cons_zero, List.set_cons_succ, i64_w, i32_w]
                rfl
              refine pure_ (i := 5) (N := some 26) (v := ?_) (a' := ?_) #[true, true, true, true, true, true, false, false, false, false] rfl rfl (any_of HT_.out (by kernel_rfl)) (fun _ _ _ h => h) (Or.inl ⟨by rfl, ?_⟩) ?_ ?_
              rotate_left
              · intro w'
                go_simp
                with_reducible rfl
              rotate_left
              · simp only [Act.put, List.setIfInBounds_toArray, List.set_cons_zero, List.set_cons_succ, i64_w, i32_w]
                rfl
              refine pure_ (i := 6) (N := some 32) (v := ?_) (a' := ?_) #[true, true, true, true, true, true, true, false, false, false] rfl rfl (any_of HT_.out (by kernel_rfl)) (fun _ _ _ h => h) (Or.inl ⟨by rfl, ?_⟩) ?_ ?_
              rotate_left
              · intro w'
                go_simp
                with_reducible rfl
              rotate_left
              · simp only [Act.put, List.setIfInBounds_toArray, List.set_cons_zero, List.set_cons_succ, i64_w, i32_w]
                rfl
              refine pure_ (i := 7) (N := some 33) (v := ?_) (a' := ?_) #[true, true, true, true, true, true, true, true, false, false] rfl rfl (any_of HT_.out (by kernel_rfl)) (fun _ _ _ h => h) (Or.inl ⟨by rfl, ?_⟩) ?_ ?_
              rotate_left
              · intro w'
                go_simp
                with_reducible rfl
              rotate_left
              · simp only [Act.put, List.setIfInBounds_toArray, List.set_cons_zero, List.set_cons_succ, i64_w, i32_w]
                rfl
              refine pure_ (i := 8) (N := some 5) (v := ?_) (a' := ?_) #[true, true, true, true, true, true, true, true, true, false] rfl rfl (any_of HT_.out (by kernel_rfl)) (fun _ _ _ h => h) (Or.inl ⟨by rfl, ?_⟩) ?_ ?_
              rotate_left
              · intro w'
                go_simp
                with_reducible rfl
              rotate_left
              · simp only [Act.put, List.setIfInBounds_toArray, List.set_cons_zero, List.set_cons_succ, i64_w, i32_w]
                rfl
              refine pure_ (i := 9) (N := some 6) (v := ?_) (a' := ?_) #[true, true, true, true, true, true, true, true, true, true] rfl rfl (any_of HT_.out (by kernel_rfl)) (fun _ _ _ h => h) (Or.inl ⟨by rfl, ?_⟩) ?_ ?_
              rotate_left
              · intro w'
                go_simp
                with_reducible rfl
              rotate_left
              · simp only [Act.put, List.setIfInBounds_toArray, List.set_cons_zero, List.set_cons_succ, i64_w, i32_w]
                rfl
              refine done_ (done_of HT_.out (by kernel_rfl)) ?_
              try go_wp2
              have n0_ := Aside0.mk (blk_drew BK290.out)
              have n1_ := Aside0.mk (below_drew1 HB.out)
              clear BK290
              clear HB
              have BK290 := n0_
              have HB := n1_
              clear n0_ n1_
              refine start_ (n := 10) (S := fun w' => w'.cell? ⟨gb290, 0, none⟩ = some (.int .i64 a1_0) ∧ w'.cell? ⟨gb290, 1, none⟩ = some (.int .i64 a1_1) ∧ w'.cell? ⟨gb290, 2, none⟩ = some (.int .i64 a1_2) ∧ w'.cell? ⟨gb290, 3, none⟩ = some (.int .i64 0) ∧ w'.cell? ⟨gb290, 4, none⟩ = some (.int .i64 0) ∧ w'.cell? ⟨gb290, 5, none⟩ = some (.int .i64 0)) (ds := []) #[false, false, false, false, false, false, false, false, false, false] (by kernel_rfl) rfl rfl ⟨(blk_cell BK290.out 0).trans rfl, (blk_cell BK290.out 1).trans rfl, (blk_cell BK290.out 2).trans rfl, (blk_cell BK290.out 3).trans rfl, (blk_cell BK290.out 4).trans rfl, (blk_cell BK290.out 5).trans rfl⟩ (fun hHeld => ?_); refine with_tabW laws_FnDayNames.tab5 laws_FnDayNames.bits5 (fun HT_ HW_ => ?_)
              generalize w69.drew = w70 at BK290 HB hHeld ⊢
              refine pure_ (i := 0) (N := some 35) (v := ?_) (a' := ?_) #[true, false, false, false, false, false, false, false, false, false] rfl rfl (any_of HT_.out (by kernel_rfl)) (fun _ _ _ h => h) (Or.inl ⟨by rfl, ?_⟩) ?_ ?_
              rotate_left
              · intro w'
                go_simp
                with_reducible rfl
              rotate_left
              · simp only [Act.put, List.setIfInBounds_toArray, List.set_cons_zero, List.set_cons_succ, i64_w, i32_w]
                rfl
              refine take_ (i := 3) (N := some 38) (v := ?_) (a' := ?_) #[true, false, false, true, false, false, false, false, false, false] rfl rfl (take_ofW HT_.out HW_.out (by kernel_rfl)) (fun _ _ _ h => h) (Or.inl ⟨by rfl, ?_⟩) hHeld ?_ ?_
              rotate_left
              · rintro w' ⟨s0, s1, s2, s3, s4, s5⟩
                go_simp
                with_reducible rfl
              rotate_left
              · simp only [Act.put, List.setIfInBounds_toArray, List.set_cons_zero, List.set_cons_succ, i64_w, i32_w]
                rfl
              refine one_ (i := 1) (N := some 36) #[true, true, false, true, false, false, false, false, false, false] rfl rfl (one_of HT_.out (by kernel_rfl)) (by decide) (fun K hK => ?_)
              refine goes_ Tryz.func25 (by kernel_rfl) rfl #[.int .i64 a0] (by rfl) rfl rfl (by (try simp only [List.map_toArray, List.map_cons, List.map_nil]); first | done | rfl | (simp only [List.length_drop, List.length_take]; rfl)) ?_
              with_reducible refine (spec_DayName.calls a0 t302 _ A16.out).mono ?_
              rintro e w' ⟨rfl, ⟨nd, rfl⟩⟩
              refine ⟨_, rfl, ?_⟩
              refine hK.out _ _ ⟨(blk_cell BK290.out 0).trans rfl, (blk_cell BK290.out 1).trans rfl, (blk_cell BK290.out 2).trans rfl, (blk_cell BK290.out 3).trans rfl, (blk_cell BK290.out 4).trans rfl, (blk_cell BK290.out 5).trans rfl⟩ (fun hHeld => ?_)
              clear hK K
              refine norm_ (a' := ?_) ?_ ?_
              rotate_left
              · show Act.put _ (some 36) _ = _
                simp only [Act.put, List.setIfInBounds_toArray, List.set_cons_zero, List.set_cons_succ, i64_w, i32_w]
                rfl
              refine one_ (i := 2) (N := some 37) #[true, true, true, true, false, false, false, false, false, false] rfl rfl (one_of HT_.out (by kernel_rfl)) (by decide) (fun K hK => ?_)
              refine goes_ Tryz.func15 (by kernel_rfl) rfl #[.int .i64 5, .string t302] (by rfl) rfl rfl (by (try simp only [List.map_toArray, List.map_cons, List.map_nil]); first | done | rfl | (simp only [List.length_drop, List.length_take]; rfl)) ?_
              with_reducible refine (laws_stars.calls kj2 5 t302 t303 _ A17.out).mono ?_
              rintro e w' ⟨rfl, ⟨nd, rfl⟩⟩
              refine ⟨_, rfl, ?_⟩
              refine hK.out _ _ ⟨(blk_cell BK290.out 0).trans rfl, (blk_cell BK290.out 1).trans rfl, (blk_cell BK290.out 2).trans rfl, (blk_cell BK290.out 3).trans rfl, (blk_cell BK290.out 4).trans rfl, (blk_cell BK290.out 5).trans rfl⟩ (fun hHeld => ?_)
              clear hK K
              refine norm_ (a' := ?_) ?_ ?_
              rotate_left
              · show Act.put _ (some 37) _ = _
                simp only [Act.put, List.setIfInBounds_toArray, List.set_cons_zero, List.set_cons_succ, i64_w, i32_w]
                rfl
              refine one_ (i := 4) (N := some 39) #[true, true, true, true, true, false, false, false, false, false] rfl rfl (one_of HT_.out (by kernel_rfl)) (by decide) (fun K hK => ?_)
              refine goes_ Tryz.func24 (by kernel_rfl) rfl #[.string t303, .agg #[.int .i64 a1_0, .int .i64 a1_1, .int .i64 a1_2, .int .i64 0, .int .i64 0, .int .i64 0]] (by rfl) rfl rfl (by (try simp only [List.map_toArray, List.map_cons, List.map_nil]); first | done | rfl | (simp only [List.length_drop, List.length_take]; rfl)) ?_
              with_reducible refine (impl_Due.calls t303 a1_0 a1_1 a1_2 0 0 0 t304 true _ A18.out).mono ?_
              rintro e w71 ⟨rfl, hb⟩
              refine ⟨_, rfl, ?_⟩
              have n0_ := Aside0.mk (blk_below (g := gb290) (o := .cells #[.int .i64 a1_0, .int .i64 a1_1, .int .i64 a1_2, .int .i64 0, .int .i64 0, .int .i64 0] 23 (0, 0)) (by (with_reducible repeat (first | refine blk_drewN ?_ _ | refine blk_drew ?_ | refine blk_alloc ?_ _)); exact BK290.out) hb)
              have n1_ := Aside0.mk (below_step (by repeat (first | (with_reducible first | exact HB.out | apply below_alloc | apply pw_below_drewN | apply below_drew1 | refine below_set ?_ GE290.out) | exact HB.out)) hb)
              clear BK290
              clear HB
              have BK290 := n0_
              have HB := n1_
              clear n0_ n1_
              (try clear hb)
              (try clear hb2)
              (try clear hk)
              (try clear hi)
              refine hK.out _ _ ⟨(blk_cell BK290.out 0).trans rfl, (blk_cell BK290.out 1).trans rfl, (blk_cell BK290.out 2).trans rfl, (blk_cell BK290.out 3).trans rfl, (blk_cell BK290.out 4).trans rfl, (blk_cell BK290.out 5).trans rfl⟩ (fun hHeld => ?_)
              clear hK K
              refine norm_ (a' := ?_) ?_ ?_
              rotate_left
              · show Act.put _ (some 39) _ = _
                simp only [Act.put, List.setIfInBounds_toArray, List.set_cons_zero, List.set_cons_succ, i64_w, i32_w]
                rfl
              refine pure_ (i := 5) (N := some 34) (v := ?_) (a' := ?_) #[true, true, true, true, true, true, false, false, false, false] rfl rfl (any_of HT_.out (by kernel_rfl)) (fun _ _ _ h => h) (Or.inl ⟨by rfl, ?_⟩) ?_ ?_
              rotate_left
              · intro w'
                go_simp
                with_reducible rfl
              rotate_left
              · simp only [Act.put, List.setIfInBounds_toArray, List.set_cons_zero, List.set_cons_succ, i64_w, i32_w]
                rfl
              refine pure_ (i := 6) (N := some 40) (v := ?_) (a' := ?_) #[true, true, true, true, true, true, true, false, false, false] rfl rfl (any_of HT_.out (by kernel_rfl)) (fun _ _ _ h => h) (Or.inl ⟨by rfl, ?_⟩) ?_ ?_
              rotate_left
              · intro w'
                go_simp
                with_reducible rfl
              rotate_left
              · simp only [Act.put, List.setIfInBounds_toArray, List.set_cons_zero, List.set_cons_succ, i64_w, i32_w]
                rfl
              refine pure_ (i := 7) (N := some 41) (v := ?_) (a' := ?_) #[true, true, true, true, true, true, true, true, false, false] rfl rfl (any_of HT_.out (by kernel_rfl)) (fun _ _ _ h => h) (Or.inl ⟨by rfl, ?_⟩) ?_ ?_
              rotate_left
              · intro w'
                go_simp
                with_reducible rfl
              rotate_left
              · simp only [Act.put, List.setIfInBounds_toArray, List.set_cons_zero, List.set_cons_succ, i64_w, i32_w]
                rfl
              refine pure_ (i := 8) (N := some 7) (v := ?_) (a' := ?_) #[true, true, true, true, true, true, true, true, true, false] rfl rfl (any_of HT_.out (by kernel_rfl)) (fun _ _ _ h => h) (Or.inl ⟨by rfl, ?_⟩) ?_ ?_
              rotate_left
              · intro w'
                go_simp
                with_reducible rfl
              rotate_left
              · simp only [Act.put, List.setIfInBounds_toArray, List.set_cons_zero, List.set_cons_succ, i64_w, i32_w]
                rfl
              refine pure_ (i := 9) (N := some 8) (v := ?_) (a' := ?_) #[true, true, true, true, true, true, true, true, true, true] rfl rfl (any_of HT_.out (by kernel_rfl)) (fun _ _ _ h => h) (Or.inl ⟨by rfl, ?_⟩) ?_ ?_
              rotate_left
              · intro w'
                go_simp
                with_reducible rfl
              rotate_left
              · simp only [Act.put, List.setIfInBounds_toArray, List.set_cons_zero, List.set_cons_succ, i64_w, i32_w]
                rfl
              refine done_ (done_of HT_.out (by kernel_rfl)) ?_
              try go_wp2
              have n0_ := Aside0.mk (blk_drew BK290.out)
              have n1_ := Aside0.mk (below_drew1 HB.out)
              clear BK290
              clear HB
              have BK290 := n0_
              have HB := n1_
              clear n0_ n1_
              refine start_ (n := 11) (S := fun w' => w'.cell? ⟨gb290, 0, none⟩ = some (.int .i64 a1_0) ∧ w'.cell? ⟨gb290, 1, none⟩ = some (.int .i64 a1_1) ∧ w'.cell? ⟨gb290, 2, none⟩ = some (.int .i64 a1_2) ∧ w'.cell? ⟨gb290, 3, none⟩ = some (.int .i64 0) ∧ w'.cell? ⟨gb290, 4, none⟩ = some (.int .i64 0) ∧ w'.cell? ⟨gb290, 5, none⟩ = some (.int .i64 0)) (ds := []) #[false, false, false, false, false, false, false, false, false, false, false] (by kernel_rfl) rfl rfl ⟨(blk_cell BK290.out 0).trans rfl, (blk_cell BK290.out 1).trans rfl, (blk_cell BK290.out 2).trans rfl, (blk_cell BK290.out 3).trans rfl, (blk_cell BK290.out 4).trans rfl, (blk_cell BK290.out 5).trans rfl⟩ (fun hHeld => ?_); refine with_tabW laws_FnDayNames.tab6 laws_FnDayNames.bits6 (fun HT_ HW_ => ?_)
              generalize w71.drew = w72 at BK290 HB hHeld ⊢
              refine pure_ (i := 0) (N := some 43) (v := ?_) (a' := ?_) #[true, false, false, false, false, false, false, false, false, false, false] rfl rfl (any_of HT_.out (by kernel_rfl)) (fun _ _ _ h => h) (Or.inl ⟨by rfl, ?_⟩) ?_ ?_
              rotate_left
              · intro w'
                go_simp
                with_reducible rfl
              rotate_left
              · simp only [Act.put, List.setIfInBounds_toArray, List.set_cons_zero, List.set_cons_succ, i64_w, i32_w]
                rfl
              refine take_ (i := 4) (N := some 47) (v := ?_) (a' := ?_) #[true, false, false, false, true, false, false, false, false, false, false] rfl rfl (take_ofW HT_.out HW_.out (by kernel_rfl)) (fun _ _ _ h => h) (Or.inl ⟨by rfl, ?_⟩) hHeld ?_ ?_
              rotate_left
              · rintro w' ⟨s0, s1, s2, s3, s4, s5⟩
                go_simp
                with_reducible rfl
              rotate_left
              · simp only [Act.put, List.setIfInBounds_toArray, List.set_cons_zero, List.set_cons_succ, i64_w, i32_w]
                rfl
              refine one_ (i := 1) (N := some 44) #[true, true, false, false, true, false, false, false, false, false, false] rfl rfl (one_of HT_.out (by kernel_rfl)) (by decide) (fun K hK => ?_)
              refine goes_ Tryz.func25 (by kernel_rfl) rfl #[.int .i64 a0] (by rfl) rfl rfl (by (try simp only [List.map_toArray, List.map_cons, List.map_nil]); first | done | rfl | (simp only [List.length_drop, List.length_take]; rfl)) ?_
              with_reducible refine (spec_DayName.calls a0 t306 _ A19.out).mono ?_
              rintro e w' ⟨rfl, ⟨nd, rfl⟩⟩
              refine ⟨_, rfl, ?_⟩
              refine hK.out _ _ ⟨(blk_cell BK290.out 0).trans rfl, (blk_cell BK290.out 1).trans rfl, (blk_cell BK290.out 2).trans rfl, (blk_cell BK290.out 3).trans rfl, (blk_cell BK290.out 4).trans rfl, (blk_cell BK290.out 5).trans rfl⟩ (fun hHeld => ?_)
              clear hK K
              refine norm_ (a' := ?_) ?_ ?_
              rotate_left
              · show Act.put _ (some 44) _ = _
                simp only [Act.put, List.setIfInBounds_toArray, List.set_cons_zero, List.set_cons_succ, i64_w, i32_w]
                rfl
              refine one_ (i := 2) (N := some 45) #[true, true, true, false, true, false, false, false, false, false, false] rfl rfl (one_of HT_.out (by kernel_rfl)) (by decide) (fun K hK => ?_)
              refine goes_ Tryz.func26 (by kernel_rfl) rfl #[.string t306] (by rfl) rfl rfl (by (try simp only [List.map_toArray, List.map_cons, List.map_nil]); first | done | rfl | (simp only [List.length_drop, List.length_take]; rfl)) ?_
              with_reducible refine (spec_Lower.calls t306 t307 _ A20.out).mono ?_
              rintro e w73 ⟨rfl, hb⟩
              refine ⟨_, rfl, ?_⟩
              have n0_ := Aside0.mk (blk_below (g := gb290) (o := .cells #[.int .i64 a1_0, .int .i64 a1_1, .int .i64 a1_2, .int .i64 0, .int .i64 0, .int .i64 0] 23 (0, 0)) (by (with_reducible repeat (first | refine blk_drewN ?_ _ | refine blk_drew ?_ | refine blk_alloc ?_ _)); exact BK290.out) hb)
              have n1_ := Aside0.mk (below_step (by repeat (first | (with_reducible first | exact HB.out | apply below_alloc | apply pw_below_drewN | apply below_drew1 | refine below_set ?_ GE290.out) | exact HB.out)) hb)
              clear BK290
              clear HB
              have BK290 := n0_
              have HB := n1_
              clear n0_ n1_
              (try clear hb)
              (try clear hb2)
              (try clear hk)
              (try clear hi)
              refine hK.out _ _ ⟨(blk_cell BK290.out 0).trans rfl, (blk_cell BK290.out 1).trans rfl, (blk_cell BK290.out 2).trans rfl, (blk_cell BK290.out 3).trans rfl, (blk_cell BK290.out 4).trans rfl, (blk_cell BK290.out 5).trans rfl⟩ (fun hHeld => ?_)
              clear hK K
              refine norm_ (a' := ?_) ?_ ?_
              rotate_left
              · show Act.put _ (some 45) _ = _
                simp only [Act.put, List.setIfInBounds_toArray, List.set_cons_zero, List.set_cons_succ, i64_w, i32_w]
                rfl
              refine one_ (i := 3) (N := some 46) #[true, true, true, true, true, false, false, false, false, false, false] rfl rfl (one_of HT_.out (by kernel_rfl)) (by decide) (fun K hK => ?_)
              refine goes_ Tryz.func15 (by kernel_rfl) rfl #[.int .i64 5, .string t307] (by rfl) rfl rfl (by (try simp only [List.map_toArray, List.map_cons, List.map_nil]); first | done | rfl | (simp only [List.length_drop, List.length_take]; rfl)) ?_
              with_reducible refine (laws_stars.calls kj2 5 t307 t308 _ A21.out).mono ?_
              rintro e w' ⟨rfl, ⟨nd, rfl⟩⟩
              refine ⟨_, rfl, ?_⟩
              refine hK.out _ _ ⟨(blk_cell BK290.out 0).trans rfl, (blk_cell BK290.out 1).trans rfl, (blk_cell BK290.out 2).trans rfl, (blk_cell BK290.out 3).trans rfl, (blk_cell BK290.out 4).trans rfl, (blk_cell BK290.out 5).trans rfl⟩ (fun hHeld => ?_)
              clear hK K
              refine norm_ (a' := ?_) ?_ ?_
              rotate_left
              · show Act.put _ (some 46) _ = _
                simp only [Act.put, List.setIfInBounds_toArray, List.set_cons_zero, List.set_cons_succ, i64_w, i32_w]
                rfl
              refine one_ (i := 5) (N := some 48) #[true, true, true, true, true, true, false, false, false, false, false] rfl rfl (one_of HT_.out (by kernel_rfl)) (by decide) (fun K hK => ?_)
              refine goes_ Tryz.func24 (by kernel_rfl) rfl #[.string t308, .agg #[.int .i64 a1_0, .int .i64 a1_1, .int .i64 a1_2, .int .i64 0, .int .i64 0, .int .i64 0]] (by rfl) rfl rfl (by (try simp only [List.map_toArray, List.map_cons, List.map_nil]); first | done | rfl | (simp only [List.length_drop, List.length_take]; rfl)) ?_
              with_reducible refine (impl_Due.calls t308 a1_0 a1_1 a1_2 0 0 0 t309 false _ A22.out).mono ?_
              rintro e w74 ⟨rfl, hb⟩
              refine ⟨_, rfl, ?_⟩
              have n0_ := Aside0.mk (blk_below (g := gb290) (o := .cells #[.int .i64 a1_0, .int .i64 a1_1, .int .i64 a1_2, .int .i64 0, .int .i64 0, .int .i64 0] 23 (0, 0)) (by (with_reducible repeat (first | refine blk_drewN ?_ _ | refine blk_drew ?_ | refine blk_alloc ?_ _)); exact BK290.out) hb)
              have n1_ := Aside0.mk (below_step (by repeat (first | (with_reducible first | exact HB.out | apply below_alloc | apply pw_below_drewN | apply below_drew1 | refine below_set ?_ GE290.out) | exact HB.out)) hb)
              clear BK290
              clear HB
              have BK290 := n0_
              have HB := n1_
              clear n0_ n1_
              (try clear hb)
              (try clear hb2)
              (try clear hk)
              (try clear hi)
              refine hK.out _ _ ⟨(blk_cell BK290.out 0).trans rfl, (blk_cell BK290.out 1).trans rfl, (blk_cell BK290.out 2).trans rfl, (blk_cell BK290.out 3).trans rfl, (blk_cell BK290.out 4).trans rfl, (blk_cell BK290.out 5).trans rfl⟩ (fun hHeld => ?_)
              clear hK K
              refine norm_ (a' := ?_) ?_ ?_
              rotate_left
              · show Act.put _ (some 48) _ = _
                simp only [Act.put, List.setIfInBounds_toArray, List.set_cons_zero, List.set_cons_succ, i64_w, i32_w]
                rfl
              refine pure_ (i := 6) (N := some 42) (v := ?_) (a' := ?_) #[true, true, true, true, true, true, true, false, false, false, false] rfl rfl (any_of HT_.out (by kernel_rfl)) (fun _ _ _ h => h) (Or.inl ⟨by rfl, ?_⟩) ?_ ?_
              rotate_left
              · intro w'
                go_simp
                with_reducible rfl
              rotate_left
              · simp only [Act.put, List.setIfInBounds_toArray, List.set_cons_zero, List.set_cons_succ, i64_w, i32_w]
                rfl
              refine pure_ (i := 7) (N := some 49) (v := ?_) (a' := ?_) #[true, true, true, true, true, true, true, true, false, false, false] rfl rfl (any_of HT_.out (by kernel_rfl)) (fun _ _ _ h => h) (Or.inl ⟨by rfl, ?_⟩) ?_ ?_
              rotate_left
              · intro w'
                go_simp
                with_reducible rfl
              rotate_left
              · simp only [Act.put, List.setIfInBounds_toArray, List.set_cons_zero, List.set_cons_succ, i64_w, i32_w]
                rfl
              refine pure_ (i := 8) (N := some 50) (v := ?_) (a' := ?_) #[true, true, true, true, true, true, true, true, true, false, false] rfl rfl (any_of HT_.out (by kernel_rfl)) (fun _ _ _ h => h) (Or.inl ⟨by rfl, ?_⟩) ?_ ?_
              rotate_left
              · intro w'
                go_simp
                with_reducible rfl
              rotate_left
              · simp only [Act.put, List.setIfInBounds_toArray, List.set_cons_zero, List.set_cons_succ, i64_w, i32_w]
                rfl
              refine pure_ (i := 9) (N := some 9) (v := ?_) (a' := ?_) #[true, true, true, true, true, true, true, true, true, true, false] rfl rfl (any_of HT_.out (by kernel_rfl)) (fun _ _ _ h => h) (Or.inl ⟨by rfl, ?_⟩) ?_ ?_
              rotate_left
              · intro w'
                go_simp
                with_reducible rfl
              rotate_left
              · simp only [Act.put, List.setIfInBounds_toArray, List.set_cons_zero, List.set_cons_succ, i64_w, i32_w]
                rfl
              refine pure_ (i := 10) (N := some 10) (v := ?_) (a' := ?_) #[true, true, true, true, true, true, true, true, true, true, true] rfl rfl (any_of HT_.out (by kernel_rfl)) (fun _ _ _ h => h) (Or.inl ⟨by rfl, ?_⟩) ?_ ?_
              rotate_left
              · intro w'
                go_simp
                with_reducible rfl
              rotate_left
              · simp only [Act.put, List.setIfInBounds_toArray, List.set_cons_zero, List.set_cons_succ, i64_w, i32_w]
                rfl
              refine done_ (done_of HT_.out (by kernel_rfl)) ?_
              try go_wp2
              go_ret
              exact ⟨by first | rfl | (simp [errW_none, errW_some] <;> rfl) | (simp [*, errW_none, errW_some] <;> rfl), by repeat (first | (with_reducible first | exact HB.out | apply below_alloc | apply pw_below_drewN | apply below_drew1 | refine below_set ?_ GE290.out) | exact HB.out)⟩
          · replace c24 := Bool.eq_false_iff.mpr c24
            subst c24
            have H1 : (some false) = some r := by rw [if_neg (show ¬ (false = true) by decide)] at H; exact H
            clear H
            have H := H1
            clear H1
            obtain rfl := Option.some.inj H
            have hcz75_0 : wc.cell? ⟨gb290, 0, none⟩ = some (.int .i64 a1_0) := (blk_cell BK290.out 0).trans rfl
            have hcz75_1 : wc.cell? ⟨gb290, 1, none⟩ = some (.int .i64 a1_1) := (blk_cell BK290.out 1).trans rfl
            have hcz75_2 : wc.cell? ⟨gb290, 2, none⟩ = some (.int .i64 a1_2) := (blk_cell BK290.out 2).trans rfl
            have hcz75_3 : wc.cell? ⟨gb290, 3, none⟩ = some (.int .i64 a1_3) := (blk_cell BK290.out 3).trans rfl
            have hcz75_4 : wc.cell? ⟨gb290, 4, none⟩ = some (.int .i64 a1_4) := (blk_cell BK290.out 4).trans rfl
            have hcz75_5 : wc.cell? ⟨gb290, 5, none⟩ = some (.int .i64 a1_5) := (blk_cell BK290.out 5).trans rfl
            have hfz75_0 := blk_frozen BK290.out 0
            have hfz75_1 := blk_frozen BK290.out 1
            have hfz75_2 := blk_frozen BK290.out 2
            have hfz75_3 := blk_frozen BK290.out 3
            have hfz75_4 := blk_frozen BK290.out 4
            have hfz75_5 := blk_frozen BK290.out 5
            try go_wp2
            have n0_ : Aside0 ((((wc.setCell ⟨gb290, 3, none⟩ (.int .i64 0)).setCell ⟨gb290, 4, none⟩ (.int .i64 0)).setCell ⟨gb290, 5, none⟩ (.int .i64 0)).heap[gb290]? = some (.cells #[.int .i64 a1_0, .int .i64 a1_1, .int .i64 a1_2, .int .i64 0, .int .i64 0, .int .i64 0] 23 (0, 0))) := ⟨by (with_reducible repeat (first | refine blk_drewN ?_ _ | refine blk_drew ?_ | refine blk_alloc ?_ _)); refine blk_put (cs := #[.int .i64 a1_0, .int .i64 a1_1, .int .i64 a1_2, .int .i64 0, .int .i64 0, .int .i64 a1_5]) ?_ 5 _ rfl; (with_reducible repeat (first | refine blk_drewN ?_ _ | refine blk_drew ?_ | refine blk_alloc ?_ _)); refine blk_put (cs := #[.int .i64 a1_0, .int .i64 a1_1, .int .i64 a1_2, .int .i64 0, .int .i64 a1_4, .int .i64 a1_5]) ?_ 4 _ rfl; (with_reducible repeat (first | refine blk_drewN ?_ _ | refine blk_drew ?_ | refine blk_alloc ?_ _)); refine blk_put (cs := #[.int .i64 a1_0, .int .i64 a1_1, .int .i64 a1_2, .int .i64 a1_3, .int .i64 a1_4, .int .i64 a1_5]) ?_ 3 _ rfl; (with_reducible repeat (first | refine blk_drewN ?_ _ | refine blk_drew ?_ | refine blk_alloc ?_ _)); exact BK290.out⟩
            have n1_ : Aside0 (Below w.heap.size w (((wc.setCell ⟨gb290, 3, none⟩ (.int .i64 0)).setCell ⟨gb290, 4, none⟩ (.int .i64 0)).setCell ⟨gb290, 5, none⟩ (.int .i64 0))) := ⟨by repeat (first | (with_reducible first | exact HB.out | apply below_alloc | apply pw_below_drewN | apply below_drew1 | refine below_set ?_ GE290.out) | exact HB.out)⟩
            (try clear BK290)
            (try clear HB)
            generalize (((wc.setCell ⟨gb290, 3, none⟩ (.int .i64 0)).setCell ⟨gb290, 4, none⟩ (.int .i64 0)).setCell ⟨gb290, 5, none⟩ (.int .i64 0)) = w76 at n0_ n1_ ⊢
            have BK290 := n0_
            have HB := n1_
            clear n0_ n1_
            have n0_ := Aside0.mk (blk_drew BK290.out)
            have n1_ := Aside0.mk (below_drew1 HB.out)
            clear BK290
            clear HB
            have BK290 := n0_
            have HB := n1_
            clear n0_ n1_
            refine start_ (n := 10) (S := fun w' => w'.cell? ⟨gb290, 0, none⟩ = some (.int .i64 a1_0) ∧ w'.cell? ⟨gb290, 1, none⟩ = some (.int .i64 a1_1) ∧ w'.cell? ⟨gb290, 2, none⟩ = some (.int .i64 a1_2) ∧ w'.cell? ⟨gb290, 3, none⟩ = some (.int .i64 0) ∧ w'.cell? ⟨gb290, 4, none⟩ = some (.int .i64 0) ∧ w'.cell? ⟨gb290, 5, none⟩ = some (.int .i64 0)) (ds := []) #[false, false, false, false, false, false, false, false, false, false] (by kernel_rfl) rfl rfl ⟨(blk_cell BK290.out 0).trans rfl, (blk_cell BK290.out 1).trans rfl, (blk_cell BK290.out 2).trans rfl, (blk_cell BK290.out 3).trans rfl, (blk_cell BK290.out 4).trans rfl, (blk_cell BK290.out 5).trans rfl⟩ (fun hHeld => ?_); refine with_tabW laws_FnDayNames.tab4 laws_FnDayNames.bits4 (fun HT_ HW_ => ?_)
            generalize w76.drew = w77 at BK290 HB hHeld ⊢
            refine pure_ (i := 0) (N := some 27) (v := ?_) (a' := ?_) #[true, false, false, false, false, false, false, false, false, false] rfl rfl (any_of HT_.out (by kernel_rfl)) (fun _ _ _ h => h) (Or.inl ⟨by rfl, ?_⟩) ?_ ?_
            rotate_left
            · intro w'
              go_simp
              with_reducible rfl
            rotate_left
            · simp only [Act.put, List.setIfInBounds_toArray, List.set_cons_zero, List.set_cons_succ, i64_w, i32_w]
              rfl
            refine take_ (i := 3) (N := some 30) (v := ?_) (a' := ?_) #[true, false, false, true, false, false, false, false, false, false] rfl rfl (take_ofW HT_.out HW_.out (by kernel_rfl)) (fun _ _ _ h => h) (Or.inl ⟨by rfl, ?_⟩) hHeld ?_ ?_
            rotate_left
            · rintro w' ⟨s0, s1, s2, s3, s4, s5⟩
              go_simp
              with_reducible rfl
            rotate_left
            · simp only [Act.put, List.setIfInBounds_toArray, List.set_cons_zero, List.set_cons_succ, i64_w, i32_w]
              rfl
            refine one_ (i := 1) (N := some 28) #[true, true, false, true, false, false, false, false, false, false] rfl rfl (one_of HT_.out (by kernel_rfl)) (by decide) (fun K hK => ?_)
            refine goes_ Tryz.func16 (by kernel_rfl) rfl #[.int .i64 a0] (by rfl) rfl rfl (by (try simp only [List.map_toArray, List.map_cons, List.map_nil]); first | done | rfl | (simp only [List.length_drop, List.length_take]; rfl)) ?_
            with_reducible refine (spec_Decimal.calls kj2 a0 t298 _ A13.out).mono ?_
            rintro e w' ⟨rfl, ⟨nd, rfl⟩⟩
            refine ⟨_, rfl, ?_⟩
            refine hK.out _ _ ⟨(blk_cell BK290.out 0).trans rfl, (blk_cell BK290.out 1).trans rfl, (blk_cell BK290.out 2).trans rfl, (blk_cell BK290.out 3).trans rfl, (blk_cell BK290.out 4).trans rfl, (blk_cell BK290.out 5).trans rfl⟩ (fun hHeld => ?_)
            clear hK K
            refine norm_ (a' := ?_) ?_ ?_
            rotate_left
            · show Act.put _ (some 28) _ = _
              simp only [Act.put, List.setIfInBounds_toArray, List.set_cons_zero, List.set_cons_succ, i64_w, i32_w]
              rfl
            refine one_ (i := 2) (N := some 29) #[true, true, true, true, false, false, false, false, false, false] rfl rfl (one_of HT_.out (by kernel_rfl)) (by decide) (fun K hK => ?_)
            refine goes_ Tryz.func15 (by kernel_rfl) rfl #[.int .i64 5, .string t298] (by rfl) rfl rfl (by (try simp only [List.map_toArray, List.map_cons, List.map_nil]); first | done | rfl | (simp only [List.length_drop, List.length_take]; rfl)) ?_
            with_reducible refine (laws_stars.calls kj2 5 t298 t299 _ A14.out).mono ?_
            rintro e w' ⟨rfl, ⟨nd, rfl⟩⟩
            refine ⟨_, rfl, ?_⟩
            refine hK.out _ _ ⟨(blk_cell BK290.out 0).trans rfl, (blk_cell BK290.out 1).trans rfl, (blk_cell BK290.out 2).trans rfl, (blk_cell BK290.out 3).trans rfl, (blk_cell BK290.out 4).trans rfl, (blk_cell BK290.out 5).trans rfl⟩ (fun hHeld => ?_)
            clear hK K
            refine norm_ (a' := ?_) ?_ ?_
            rotate_left
            · show Act.put _ (some 29) _ = _
              simp only [Act.put, List.setIfInBounds_toArray, List.set_cons_zero, List.set_cons_succ, i64_w, i32_w]
              rfl
            refine one_ (i := 4) (N := some 31) #[true, true, true, true, true, false, false, false, false, false] rfl rfl (one_of HT_.out (by kernel_rfl)) (by decide) (fun K hK => ?_)
            refine goes_ Tryz.func24 (by kernel_rfl) rfl #[.string t299, .agg #[.int .i64 a1_0, .int .i64 a1_1, .int .i64 a1_2, .int .i64 0, .int .i64 0, .int .i64 0]] (by rfl) rfl rfl (by (try simp only [List.map_toArray, List.map_cons, List.map_nil]); first | done | rfl | (simp only [List.length_drop, List.length_take]; rfl)) ?_
            with_reducible refine (impl_Due.calls t299 a1_0 a1_1 a1_2 0 0 0 t300 true _ A15.out).mono ?_
            rintro e w78 ⟨rfl, hb⟩
            refine ⟨_, rfl, ?_⟩
            have n0_ := Aside0.mk (blk_below (g := gb290) (o := .cells #[.int .i64 a1_0, .int .i64 a1_1, .int .i64 a1_2, .int .i64 0, .int .i64 0, .int .i64 0] 23 (0, 0)) (by (with_reducible repeat (first | refine blk_drewN ?_ _ | refine blk_drew ?_ | refine blk_alloc ?_ _)); exact BK290.out) hb)
            have n1_ := Aside0.mk (below_step (by repeat (first | (with_reducible first | exact HB.out | apply below_alloc | apply pw_below_drewN | apply below_drew1 | refine below_set ?_ GE290.out) | exact HB.out)) hb)
            clear BK290
            clear HB
            have BK290 := n0_
            have HB := n1_
            clear n0_ n1_
            (try clear hb)
            (try clear hb2)
            (try clear hk)
            (try clear hi)
            refine hK.out _ _ ⟨(blk_cell BK290.out 0).trans rfl, (blk_cell BK290.out 1).trans rfl, (blk_cell BK290.out 2).trans rfl, (blk_cell BK290.out 3).trans rfl, (blk_cell BK290.out 4).trans rfl, (blk_cell BK290.out 5).trans rfl⟩ (fun hHeld => ?_)
            clear hK K
            refine norm_ (a' := ?_) ?_ ?_
            rotate_left
            · show Act.put _ (some 31) _ = _
              simp only [Act.put, List.setIfInBounds_toArray, List.set_cons_zero, List.set_cons_succ, i64_w, i32_w]
              rfl
            refine pure_ (i := 5) (N := some 26) (v := ?_) (a' := ?_) #[true, true, true, true, true, true, false, false, false, false] rfl rfl (any_of HT_.out (by kernel_rfl)) (fun _ _ _ h => h) (Or.inl ⟨by rfl, ?_⟩) ?_ ?_
            rotate_left
            · intro w'
              go_simp
              with_reducible rfl
            rotate_left
            · simp only [Act.put, List.setIfInBounds_toArray, List.set_cons_zero, List.set_cons_succ, i64_w, i32_w]
              rfl
            refine pure_ (i := 6) (N := some 32) (v := ?_) (a' := ?_) #[true, true, true, true, true, true, true, false, false, false] rfl rfl (any_of HT_.out (by kernel_rfl)) (fun _ _ _ h => h) (Or.inl ⟨by rfl, ?_⟩) ?_ ?_
            rotate_left
            · intro w'
              go_simp
              with_reducible rfl
            rotate_left
            · simp only [Act.put, List.setIfInBounds_toArray, List.set_cons_zero, List.set_cons_succ, i64_w, i32_w]
              rfl
            refine pure_ (i := 7) (N := some 33) (v := ?_) (a' := ?_) #[true, true, true, true, true, true, true, true, false, false] rfl rfl (any_of HT_.out (by kernel_rfl)) (fun _ _ _ h => h) (Or.inl ⟨by rfl, ?_⟩) ?_ ?_
            rotate_left
            · intro w'
              go_simp
              with_reducible rfl
            rotate_left
            · simp only [Act.put, List.setIfInBounds_toArray, List.set_cons_zero, List.set_cons_succ, i64_w, i32_w]
              rfl
            refine pure_ (i := 8) (N := some 5) (v := ?_) (a' := ?_) #[true, true, true, true, true, true, true, true, true, false] rfl rfl (any_of HT_.out (by kernel_rfl)) (fun _ _ _ h => h) (Or.inl ⟨by rfl, ?_⟩) ?_ ?_
            rotate_left
            · intro w'
              go_simp
              with_reducible rfl
            rotate_left
            · simp only [Act.put, List.setIfInBounds_toArray, List.set_cons_zero, List.set_cons_succ, i64_w, i32_w]
              rfl
            refine pure_ (i := 9) (N := some 6) (v := ?_) (a' := ?_) #[true, true, true, true, true, true, true, true, true, true] rfl rfl (any_of HT_.out (by kernel_rfl)) (fun _ _ _ h => h) (Or.inl ⟨by rfl, ?_⟩) ?_ ?_
            rotate_left
            · intro w'
              go_simp
              with_reducible rfl
            rotate_left
            · simp only [Act.put, List.setIfInBounds_toArray, List.set_cons_zero, List.set_cons_succ, i64_w, i32_w]
              rfl
            refine done_ (done_of HT_.out (by kernel_rfl)) ?_
            try go_wp2
            have n0_ := Aside0.mk (blk_drew BK290.out)
            have n1_ := Aside0.mk (below_drew1 HB.out)
            clear BK290
            clear HB
            have BK290 := n0_
            have HB := n1_
            clear n0_ n1_
            refine start_ (n := 10) (S := fun w' => w'.cell? ⟨gb290, 0, none⟩ = some (.int .i64 a1_0) ∧ w'.cell? ⟨gb290, 1, none⟩ = some (.int .i64 a1_1) ∧ w'.cell? ⟨gb290, 2, none⟩ = some (.int .i64 a1_2) ∧ w'.cell? ⟨gb290, 3, none⟩ = some (.int .i64 0) ∧ w'.cell? ⟨gb290, 4, none⟩ = some (.int .i64 0) ∧ w'.cell? ⟨gb290, 5, none⟩ = some (.int .i64 0)) (ds := []) #[false, false, false, false, false, false, false, false, false, false] (by kernel_rfl) rfl rfl ⟨(blk_cell BK290.out 0).trans rfl, (blk_cell BK290.out 1).trans rfl, (blk_cell BK290.out 2).trans rfl, (blk_cell BK290.out 3).trans rfl, (blk_cell BK290.out 4).trans rfl, (blk_cell BK290.out 5).trans rfl⟩ (fun hHeld => ?_); refine with_tabW laws_FnDayNames.tab5 laws_FnDayNames.bits5 (fun HT_ HW_ => ?_)
            generalize w78.drew = w79 at BK290 HB hHeld ⊢
            refine pure_ (i := 0) (N := some 35) (v := ?_) (a' := ?_) #[true, false, false, false, false, false, false, false, false, false] rfl rfl (any_of HT_.out (by kernel_rfl)) (fun _ _ _ h => h) (Or.inl ⟨by rfl, ?_⟩) ?_ ?_
            rotate_left
            · intro w'
              go_simp
              with_reducible rfl
            rotate_left
            · simp only [Act.put, List.setIfInBounds_toArray, List.set_cons_zero, List.set_cons_succ, i64_w, i32_w]
              rfl
            refine take_ (i := 3) (N := some 38) (v := ?_) (a' := ?_) #[true, false, false, true, false, false, false, false, false, false] rfl rfl (take_ofW HT_.out HW_.out (by kernel_rfl)) (fun _ _ _ h => h) (Or.inl ⟨by rfl, ?_⟩) hHeld ?_ ?_
            rotate_left
            · rintro w' ⟨s0, s1, s2, s3, s4, s5⟩
              go_simp
              with_reducible rfl
            rotate_left
            · simp only [Act.put, List.setIfInBounds_toArray, List.set_cons_zero, List.set_cons_succ, i64_w, i32_w]
              rfl
            refine one_ (i := 1) (N := some 36) #[true, true, false, true, false, false, false, false, false, false] rfl rfl (one_of HT_.out (by kernel_rfl)) (by decide) (fun K hK => ?_)
            refine goes_ Tryz.func25 (by kernel_rfl) rfl #[.int .i64 a0] (by rfl) rfl rfl (by (try simp only [List.map_toArray, List.map_cons, List.map_nil]); first | done | rfl | (simp only [List.length_drop, List.length_take]; rfl)) ?_
            with_reducible refine (spec_DayName.calls a0 t302 _ A16.out).mono ?_
            rintro e w' ⟨rfl, ⟨nd, rfl⟩⟩
            refine ⟨_, rfl, ?_⟩
            refine hK.out _ _ ⟨(blk_cell BK290.out 0).trans rfl, (blk_cell BK290.out 1).trans rfl, (blk_cell BK290.out 2).trans rfl, (blk_cell BK290.out 3).trans rfl, (blk_cell BK290.out 4).trans rfl, (blk_cell BK290.out 5).trans rfl⟩ (fun hHeld => ?_)
            clear hK K
            refine norm_ (a' := ?_) ?_ ?_
            rotate_left
            · show Act.put _ (some 36) _ = _
              simp only [Act.put, List.setIfInBounds_toArray, List.set_cons_zero, List.set_cons_succ, i64_w, i32_w]
              rfl
            refine one_ (i := 2) (N := some 37) #[true, true, true, true, false, false, false, false, false, false] rfl rfl (one_of HT_.out (by kernel_rfl)) (by decide) (fun K hK => ?_)
            refine goes_ Tryz.func15 (by kernel_rfl) rfl #[.int .i64 5, .string t302] (by rfl) rfl rfl (by (try simp only [List.map_toArray, List.map_cons, List.map_nil]); first | done | rfl | (simp only [List.length_drop, List.length_take]; rfl)) ?_
            with_reducible refine (laws_stars.calls kj2 5 t302 t303 _ A17.out).mono ?_
            rintro e w' ⟨rfl, ⟨nd, rfl⟩⟩
            refine ⟨_, rfl, ?_⟩
            refine hK.out _ _ ⟨(blk_cell BK290.out 0).trans rfl, (blk_cell BK290.out 1).trans rfl, (blk_cell BK290.out 2).trans rfl, (blk_cell BK290.out 3).trans rfl, (blk_cell BK290.out 4).trans rfl, (blk_cell BK290.out 5).trans rfl⟩ (fun hHeld => ?_)
            clear hK K
            refine norm_ (a' := ?_) ?_ ?_
            rotate_left
            · show Act.put _ (some 37) _ = _
              simp only [Act.put, List.setIfInBounds_toArray, List.set_cons_zero, List.set_cons_succ, i64_w, i32_w]
              rfl
            refine one_ (i := 4) (N := some 39) #[true, true, true, true, true, false, false, false, false, false] rfl rfl (one_of HT_.out (by kernel_rfl)) (by decide) (fun K hK => ?_)
            refine goes_ Tryz.func24 (by kernel_rfl) rfl #[.string t303, .agg #[.int .i64 a1_0, .int .i64 a1_1, .int .i64 a1_2, .int .i64 0, .int .i64 0, .int .i64 0]] (by rfl) rfl rfl (by (try simp only [List.map_toArray, List.map_cons, List.map_nil]); first | done | rfl | (simp only [List.length_drop, List.length_take]; rfl)) ?_
            with_reducible refine (impl_Due.calls t303 a1_0 a1_1 a1_2 0 0 0 t304 false _ A18.out).mono ?_
            rintro e w80 ⟨rfl, hb⟩
            refine ⟨_, rfl, ?_⟩
            have n0_ := Aside0.mk (blk_below (g := gb290) (o := .cells #[.int .i64 a1_0, .int .i64 a1_1, .int .i64 a1_2, .int .i64 0, .int .i64 0, .int .i64 0] 23 (0, 0)) (by (with_reducible repeat (first | refine blk_drewN ?_ _ | refine blk_drew ?_ | refine blk_alloc ?_ _)); exact BK290.out) hb)
            have n1_ := Aside0.mk (below_step (by repeat (first | (with_reducible first | exact HB.out | apply below_alloc | apply pw_below_drewN | apply below_drew1 | refine below_set ?_ GE290.out) | exact HB.out)) hb)
            clear BK290
            clear HB
            have BK290 := n0_
            have HB := n1_
            clear n0_ n1_
            (try clear hb)
            (try clear hb2)
            (try clear hk)
            (try clear hi)
            refine hK.out _ _ ⟨(blk_cell BK290.out 0).trans rfl, (blk_cell BK290.out 1).trans rfl, (blk_cell BK290.out 2).trans rfl, (blk_cell BK290.out 3).trans rfl, (blk_cell BK290.out 4).trans rfl, (blk_cell BK290.out 5).trans rfl⟩ (fun hHeld => ?_)
            clear hK K
            refine norm_ (a' := ?_) ?_ ?_
            rotate_left
            · show Act.put _ (some 39) _ = _
              simp only [Act.put, List.setIfInBounds_toArray, List.set_cons_zero, List.set_cons_succ, i64_w, i32_w]
              rfl
            refine pure_ (i := 5) (N := some 34) (v := ?_) (a' := ?_) #[true, true, true, true, true, true, false, false, false, false] rfl rfl (any_of HT_.out (by kernel_rfl)) (fun _ _ _ h => h) (Or.inl ⟨by rfl, ?_⟩) ?_ ?_
            rotate_left
            · intro w'
              go_simp
              with_reducible rfl
            rotate_left
            · simp only [Act.put, List.setIfInBounds_toArray, List.set_cons_zero, List.set_cons_succ, i64_w, i32_w]
              rfl
            refine pure_ (i := 6) (N := some 40) (v := ?_) (a' := ?_) #[true, true, true, true, true, true, true, false, false, false] rfl rfl (any_of HT_.out (by kernel_rfl)) (fun _ _ _ h => h) (Or.inl ⟨by rfl, ?_⟩) ?_ ?_
            rotate_left
            · intro w'
              go_simp
              with_reducible rfl
            rotate_left
            · simp only [Act.put, List.setIfInBounds_toArray, List.set_cons_zero, List.set_cons_succ, i64_w, i32_w]
              rfl
            refine pure_ (i := 7) (N := some 41) (v := ?_) (a' := ?_) #[true, true, true, true, true, true, true, true, false, false] rfl rfl (any_of HT_.out (by kernel_rfl)) (fun _ _ _ h => h) (Or.inl ⟨by rfl, ?_⟩) ?_ ?_
            rotate_left
            · intro w'
              go_simp
              with_reducible rfl
            rotate_left
            · simp only [Act.put, List.setIfInBounds_toArray, List.set_cons_zero, List.set_cons_succ, i64_w, i32_w]
              rfl
            refine pure_ (i := 8) (N := some 7) (v := ?_) (a' := ?_) #[true, true, true, true, true, true, true, true, true, false] rfl rfl (any_of HT_.out (by kernel_rfl)) (fun _ _ _ h => h) (Or.inl ⟨by rfl, ?_⟩) ?_ ?_
            rotate_left
            · intro w'
              go_simp
              with_reducible rfl
            rotate_left
            · simp only [Act.put, List.setIfInBounds_toArray, List.set_cons_zero, List.set_cons_succ, i64_w, i32_w]
              rfl
            refine pure_ (i := 9) (N := some 8) (v := ?_) (a' := ?_) #[true, true, true, true, true, true, true, true, true, true] rfl rfl (any_of HT_.out (by kernel_rfl)) (fun _ _ _ h => h) (Or.inl ⟨by rfl, ?_⟩) ?_ ?_
            rotate_left
            · intro w'
              go_simp
              with_reducible rfl
            rotate_left
            · simp only [Act.put, List.setIfInBounds_toArray, List.set_cons_zero, List.set_cons_succ, i64_w, i32_w]
              rfl
            refine done_ (done_of HT_.out (by kernel_rfl)) ?_
            try go_wp2
            have n0_ := Aside0.mk (blk_drew BK290.out)
            have n1_ := Aside0.mk (below_drew1 HB.out)
            clear BK290
            clear HB
            have BK290 := n0_
            have HB := n1_
            clear n0_ n1_
            refine start_ (n := 11) (S := fun w' => w'.cell? ⟨gb290, 0, none⟩ = some (.int .i64 a1_0) ∧ w'.cell? ⟨gb290, 1, none⟩ = some (.int .i64 a1_1) ∧ w'.cell? ⟨gb290, 2, none⟩ = some (.int .i64 a1_2) ∧ w'.cell? ⟨gb290, 3, none⟩ = some (.int .i64 0) ∧ w'.cell? ⟨gb290, 4, none⟩ = some (.int .i64 0) ∧ w'.cell? ⟨gb290, 5, none⟩ = some (.int .i64 0)) (ds := []) #[false, false, false, false, false, false, false, false, false, false, false] (by kernel_rfl) rfl rfl ⟨(blk_cell BK290.out 0).trans rfl, (blk_cell BK290.out 1).trans rfl, (blk_cell BK290.out 2).trans rfl, (blk_cell BK290.out 3).trans rfl, (blk_cell BK290.out 4).trans rfl, (blk_cell BK290.out 5).trans rfl⟩ (fun hHeld => ?_); refine with_tabW laws_FnDayNames.tab6 laws_FnDayNames.bits6 (fun HT_ HW_ => ?_)
            generalize w80.drew = w81 at BK290 HB hHeld ⊢
            refine pure_ (i := 0) (N := some 43) (v := ?_) (a' := ?_) #[true, false, false, false, false, false, false, false, false, false, false] rfl rfl (any_of HT_.out (by kernel_rfl)) (fun _ _ _ h => h) (Or.inl ⟨by rfl, ?_⟩) ?_ ?_
            rotate_left
            · intro w'
              go_simp
              with_reducible rfl
            rotate_left
            · simp only [Act.put, List.setIfInBounds_toArray, List.set_cons_zero, List.set_cons_succ, i64_w, i32_w]
              rfl
            refine take_ (i := 4) (N := some 47) (v := ?_) (a' := ?_) #[true, false, false, false, true, false, false, false, false, false, false] rfl rfl (take_ofW HT_.out HW_.out (by kernel_rfl)) (fun _ _ _ h => h) (Or.inl ⟨by rfl, ?_⟩) hHeld ?_ ?_
            rotate_left
            · rintro w' ⟨s0, s1, s2, s3, s4, s5⟩
              go_simp
              with_reducible rfl
            rotate_left
            · simp only [Act.put, List.setIfInBounds_toArray, List.set_cons_zero, List.set_cons_succ, i64_w, i32_w]
              rfl
            refine one_ (i := 1) (N := some 44) #[true, true, false, false, true, false, false, false, false, false, false] rfl rfl (one_of HT_.out (by kernel_rfl)) (by decide) (fun K hK => ?_)
            refine goes_ Tryz.func25 (by kernel_rfl) rfl #[.int .i64 a0] (by rfl) rfl rfl (by (try simp only [List.map_toArray, List.map_cons, List.map_nil]); first | done | rfl | (simp only [List.length_drop, List.length_take]; rfl)) ?_
            with_reducible refine (spec_DayName.calls a0 t306 _ A19.out).mono ?_
            rintro e w' ⟨rfl, ⟨nd, rfl⟩⟩
            refine ⟨_, rfl, ?_⟩
            refine hK.out _ _ ⟨(blk_cell BK290.out 0).trans rfl, (blk_cell BK290.out 1).trans rfl, (blk_cell BK290.out 2).trans rfl, (blk_cell BK290.out 3).trans rfl, (blk_cell BK290.out 4).trans rfl, (blk_cell BK290.out 5).trans rfl⟩ (fun hHeld => ?_)
            clear hK K
            refine norm_ (a' := ?_) ?_ ?_
            rotate_left
            · show Act.put _ (some 44) _ = _
              simp only [Act.put, List.setIfInBounds_toArray, List.set_cons_zero, List.set_cons_succ, i64_w, i32_w]
              rfl
            refine one_ (i := 2) (N := some 45) #[true, true, true, false, true, false, false, false, false, false, false] rfl rfl (one_of HT_.out (by kernel_rfl)) (by decide) (fun K hK => ?_)
            refine goes_ Tryz.func26 (by kernel_rfl) rfl #[.string t306] (by rfl) rfl rfl (by (try simp only [List.map_toArray, List.map_cons, List.map_nil]); first | done | rfl | (simp only [List.length_drop, List.length_take]; rfl)) ?_
            with_reducible refine (spec_Lower.calls t306 t307 _ A20.out).mono ?_
            rintro e w82 ⟨rfl, hb⟩
            refine ⟨_, rfl, ?_⟩
            have n0_ := Aside0.mk (blk_below (g := gb290) (o := .cells #[.int .i64 a1_0, .int .i64 a1_1, .int .i64 a1_2, .int .i64 0, .int .i64 0, .int .i64 0] 23 (0, 0)) (by (with_reducible repeat (first | refine blk_drewN ?_ _ | refine blk_drew ?_ | refine blk_alloc ?_ _)); exact BK290.out) hb)
            have n1_ := Aside0.mk (below_step (by repeat (first | (with_reducible first | exact HB.out | apply below_alloc | apply pw_below_drewN | apply below_drew1 | refine below_set ?_ GE290.out) | exact HB.out)) hb)
            clear BK290
            clear HB
            have BK290 := n0_
            have HB := n1_
            clear n0_ n1_
            (try clear hb)
            (try clear hb2)
            (try clear hk)
            (try clear hi)
            refine hK.out _ _ ⟨(blk_cell BK290.out 0).trans rfl, (blk_cell BK290.out 1).trans rfl, (blk_cell BK290.out 2).trans rfl, (blk_cell BK290.out 3).trans rfl, (blk_cell BK290.out 4).trans rfl, (blk_cell BK290.out 5).trans rfl⟩ (fun hHeld => ?_)
            clear hK K
            refine norm_ (a' := ?_) ?_ ?_
            rotate_left
            · show Act.put _ (some 45) _ = _
              simp only [Act.put, List.setIfInBounds_toArray, List.set_cons_zero, List.set_cons_succ, i64_w, i32_w]
              rfl
            refine one_ (i := 3) (N := some 46) #[true, true, true, true, true, false, false, false, false, false, false] rfl rfl (one_of HT_.out (by kernel_rfl)) (by decide) (fun K hK => ?_)
            refine goes_ Tryz.func15 (by kernel_rfl) rfl #[.int .i64 5, .string t307] (by rfl) rfl rfl (by (try simp only [List.map_toArray, List.map_cons, List.map_nil]); first | done | rfl | (simp only [List.length_drop, List.length_take]; rfl)) ?_
            with_reducible refine (laws_stars.calls kj2 5 t307 t308 _ A21.out).mono ?_
            rintro e w' ⟨rfl, ⟨nd, rfl⟩⟩
            refine ⟨_, rfl, ?_⟩
            refine hK.out _ _ ⟨(blk_cell BK290.out 0).trans rfl, (blk_cell BK290.out 1).trans rfl, (blk_cell BK290.out 2).trans rfl, (blk_cell BK290.out 3).trans rfl, (blk_cell BK290.out 4).trans rfl, (blk_cell BK290.out 5).trans rfl⟩ (fun hHeld => ?_)
            clear hK K
            refine norm_ (a' := ?_) ?_ ?_
            rotate_left
            · show Act.put _ (some 46) _ = _
              simp only [Act.put, List.setIfInBounds_toArray, List.set_cons_zero, List.set_cons_succ, i64_w, i32_w]
              rfl
            refine one_ (i := 5) (N := some 48) #[true, true, true, true, true, true, false, false, false, false, false] rfl rfl (one_of HT_.out (by kernel_rfl)) (by decide) (fun K hK => ?_)
            refine goes_ Tryz.func24 (by kernel_rfl) rfl #[.string t308, .agg #[.int .i64 a1_0, .int .i64 a1_1, .int .i64 a1_2, .int .i64 0, .int .i64 0, .int .i64 0]] (by rfl) rfl rfl (by (try simp only [List.map_toArray, List.map_cons, List.map_nil]); first | done | rfl | (simp only [List.length_drop, List.length_take]; rfl)) ?_
            with_reducible refine (impl_Due.calls t308 a1_0 a1_1 a1_2 0 0 0 t309 t310 _ A22.out).mono ?_
            rintro e w83 ⟨rfl, hb⟩
            refine ⟨_, rfl, ?_⟩
            have n0_ := Aside0.mk (blk_below (g := gb290) (o := .cells #[.int .i64 a1_0, .int .i64 a1_1, .int .i64 a1_2, .int .i64 0, .int .i64 0, .int .i64 0] 23 (0, 0)) (by (with_reducible repeat (first | refine blk_drewN ?_ _ | refine blk_drew ?_ | refine blk_alloc ?_ _)); exact BK290.out) hb)
            have n1_ := Aside0.mk (below_step (by repeat (first | (with_reducible first | exact HB.out | apply below_alloc | apply pw_below_drewN | apply below_drew1 | refine below_set ?_ GE290.out) | exact HB.out)) hb)
            clear BK290
            clear HB
            have BK290 := n0_
            have HB := n1_
            clear n0_ n1_
            (try clear hb)
            (try clear hb2)
            (try clear hk)
            (try clear hi)
            refine hK.out _ _ ⟨(blk_cell BK290.out 0).trans rfl, (blk_cell BK290.out 1).trans rfl, (blk_cell BK290.out 2).trans rfl, (blk_cell BK290.out 3).trans rfl, (blk_cell BK290.out 4).trans rfl, (blk_cell BK290.out 5).trans rfl⟩ (fun hHeld => ?_)
            clear hK K
            refine norm_ (a' := ?_) ?_ ?_
            rotate_left
            · show Act.put _ (some 48) _ = _
              simp only [Act.put, List.setIfInBounds_toArray, List.set_cons_zero, List.set_cons_succ, i64_w, i32_w]
              rfl
            refine pure_ (i := 6) (N := some 42) (v := ?_) (a' := ?_) #[true, true, true, true, true, true, true, false, false, false, false] rfl rfl (any_of HT_.out (by kernel_rfl)) (fun _ _ _ h => h) (Or.inl ⟨by rfl, ?_⟩) ?_ ?_
            rotate_left
            · intro w'
              go_simp
              with_reducible rfl
            rotate_left
            · simp only [Act.put, List.setIfInBounds_toArray, List.set_cons_zero, List.set_cons_succ, i64_w, i32_w]
              rfl
            refine pure_ (i := 7) (N := some 49) (v := ?_) (a' := ?_) #[true, true, true, true, true, true, true, true, false, false, false] rfl rfl (any_of HT_.out (by kernel_rfl)) (fun _ _ _ h => h) (Or.inl ⟨by rfl, ?_⟩) ?_ ?_
            rotate_left
            · intro w'
              go_simp
              with_reducible rfl
            rotate_left
            · simp only [Act.put, List.setIfInBounds_toArray, List.set_cons_zero, List.set_cons_succ, i64_w, i32_w]
              rfl
            refine pure_ (i := 8) (N := some 50) (v := ?_) (a' := ?_) #[true, true, true, true, true, true, true, true, true, false, false] rfl rfl (any_of HT_.out (by kernel_rfl)) (fun _ _ _ h => h) (Or.inl ⟨by rfl, ?_⟩) ?_ ?_
            rotate_left
            · intro w'
              go_simp
              with_reducible rfl
            rotate_left
            · simp only [Act.put, List.setIfInBounds_toArray, List.set_cons_zero, List.set_cons_succ, i64_w, i32_w]
              rfl
            refine pure_ (i := 9) (N := some 9) (v := ?_) (a' := ?_) #[true, true, true, true, true, true, true, true, true, true, false] rfl rfl (any_of HT_.out (by kernel_rfl)) (fun _ _ _ h => h) (Or.inl ⟨by rfl, ?_⟩) ?_ ?_
            rotate_left
            · intro w'
              go_simp
              with_reducible rfl
            rotate_left
            · simp only [Act.put, List.setIfInBounds_toArray, List.set_cons_zero, List.set_cons_succ, i64_w, i32_w]
              rfl
            refine pure_ (i := 10) (N := some 10) (v := ?_) (a' := ?_) #[true, true, true, true, true, true, true, true, true, true, true] rfl rfl (any_of HT_.out (by kernel_rfl)) (fun _ _ _ h => h) (Or.inl ⟨by rfl, ?_⟩) ?_ ?_
            rotate_left
            · intro w'
              go_simp
              with_reducible rfl
            rotate_left
            · simp only [Act.put, List.setIfInBounds_toArray, List.set_cons_zero, List.set_cons_succ, i64_w, i32_w]
              rfl
            refine done_ (done_of HT_.out (by kernel_rfl)) ?_
            try go_wp2
            go_ret
            exact ⟨by first | rfl | (simp [errW_none, errW_some] <;> rfl) | (simp [*, errW_none, errW_some] <;> rfl), by repeat (first | (with_reducible first | exact HB.out | apply below_alloc | apply pw_below_drewN | apply below_drew1 | refine below_set ?_ GE290.out) | exact HB.out)⟩
        · replace c23 := Bool.eq_false_iff.mpr c23
          subst c23
          have H1 : (some false) = some r := by rw [if_neg (show ¬ (false = true) by decide)] at H; exact H
          clear H
          have H := H1
          clear H1
          obtain rfl := Option.some.inj H
          have hcz84_0 : wc.cell? ⟨gb290, 0, none⟩ = some (.int .i64 a1_0) := (blk_cell BK290.out 0).trans rfl
          have hcz84_1 : wc.cell? ⟨gb290, 1, none⟩ = some (.int .i64 a1_1) := (blk_cell BK290.out 1).trans rfl
          have hcz84_2 : wc.cell? ⟨gb290, 2, none⟩ = some (.int .i64 a1_2) := (blk_cell BK290.out 2).trans rfl
          have hcz84_3 : wc.cell? ⟨gb290, 3, none⟩ = some (.int .i64 a1_3) := (blk_cell BK290.out 3).trans rfl
          have hcz84_4 : wc.cell? ⟨gb290, 4, none⟩ = some (.int .i64 a1_4) := (blk_cell BK290.out 4).trans rfl
          have hcz84_5 : wc.cell? ⟨gb290, 5, none⟩ = some (.int .i64 a1_5) := (blk_cell BK290.out 5).trans rfl
          have hfz84_0 := blk_frozen BK290.out 0
          have hfz84_1 := blk_frozen BK290.out 1
          have hfz84_2 := blk_frozen BK290.out 2
          have hfz84_3 := blk_frozen BK290.out 3
          have hfz84_4 := blk_frozen BK290.out 4
          have hfz84_5 := blk_frozen BK290.out 5
          try go_wp2
          have n0_ : Aside0 ((((wc.setCell ⟨gb290, 3, none⟩ (.int .i64 0)).setCell ⟨gb290, 4, none⟩ (.int .i64 0)).setCell ⟨gb290, 5, none⟩ (.int .i64 0)).heap[gb290]? = some (.cells #[.int .i64 a1_0, .int .i64 a1_1, .int .i64 a1_2, .int .i64 0, .int .i64 0, .int .i64 0] 23 (0, 0))) := ⟨by (with_reducible repeat (first | refine blk_drewN ?_ _ | refine blk_drew ?_ | refine blk_alloc ?_ _)); refine blk_put (cs := #[.int .i64 a1_0, .int .i64 a1_1, .int .i64 a1_2, .int .i64 0, .int .i64 0, .int .i64 a1_5]) ?_ 5 _ rfl; (with_reducible repeat (first | refine blk_drewN ?_ _ | refine blk_drew ?_ | refine blk_alloc ?_ _)); refine blk_put (cs := #[.int .i64 a1_0, .int .i64 a1_1, .int .i64 a1_2, .int .i64 0, .int .i64 a1_4, .int .i64 a1_5]) ?_ 4 _ rfl; (with_reducible repeat (first | refine blk_drewN ?_ _ | refine blk_drew ?_ | refine blk_alloc ?_ _)); refine blk_put (cs := #[.int .i64 a1_0, .int .i64 a1_1, .int .i64 a1_2, .int .i64 a1_3, .int .i64 a1_4, .int .i64 a1_5]) ?_ 3 _ rfl; (with_reducible repeat (first | refine blk_drewN ?_ _ | refine blk_drew ?_ | refine blk_alloc ?_ _)); exact BK290.out⟩
          have n1_ : Aside0 (Below w.heap.size w (((wc.setCell ⟨gb290, 3, none⟩ (.int .i64 0)).setCell ⟨gb290, 4, none⟩ (.int .i64 0)).setCell ⟨gb290, 5, none⟩ (.int .i64 0))) := ⟨by repeat (first | (with_reducible first | exact HB.out | apply below_alloc | apply pw_below_drewN | apply below_drew1 | refine below_set ?_ GE290.out) | exact HB.out)⟩
          (try clear BK290)
          (try clear HB)
          generalize (((wc.setCell ⟨gb290, 3, none⟩ (.int .i64 0)).setCell ⟨gb290, 4, none⟩ (.int .i64 0)).setCell ⟨gb290, 5, none⟩ (.int .i64 0)) = w85 at n0_ n1_ ⊢
          have BK290 := n0_
          have HB := n1_
          clear n0_ n1_
          have n0_ := Aside0.mk (blk_drew BK290.out)
          have n1_ := Aside0.mk (below_drew1 HB.out)
          clear BK290
          clear HB
          have BK290 := n0_
          have HB := n1_
          clear n0_ n1_
          refine start_ (n := 10) (S := fun w' => w'.cell? ⟨gb290, 0, none⟩ = some (.int .i64 a1_0) ∧ w'.cell? ⟨gb290, 1, none⟩ = some (.int .i64 a1_1) ∧ w'.cell? ⟨gb290, 2, none⟩ = some (.int .i64 a1_2) ∧ w'.cell? ⟨gb290, 3, none⟩ = some (.int .i64 0) ∧ w'.cell? ⟨gb290, 4, none⟩ = some (.int .i64 0) ∧ w'.cell? ⟨gb290, 5, none⟩ = some (.int .i64 0)) (ds := []) #[false, false, false, false, false, false, false, false, false, false] (by kernel_rfl) rfl rfl ⟨(blk_cell BK290.out 0).trans rfl, (blk_cell BK290.out 1).trans rfl, (blk_cell BK290.out 2).trans rfl, (blk_cell BK290.out 3).trans rfl, (blk_cell BK290.out 4).trans rfl, (blk_cell BK290.out 5).trans rfl⟩ (fun hHeld => ?_); refine with_tabW laws_FnDayNames.tab4 laws_FnDayNames.bits4 (fun HT_ HW_ => ?_)
          generalize w85.drew = w86 at BK290 HB hHeld ⊢
          refine pure_ (i := 0) (N := some 27) (v := ?_) (a' := ?_) #[true, false, false, false, false, false, false, false, false, false] rfl rfl (any_of HT_.out (by kernel_rfl)) (fun _ _ _ h => h) (Or.inl ⟨by rfl, ?_⟩) ?_ ?_
          rotate_left
          · intro w'
            go_simp
            with_reducible rfl
          rotate_left
          · simp only [Act.put, List.setIfInBounds_toArray, List.set_cons_zero, List.set_cons_succ, i64_w, i32_w]
            rfl
          refine take_ (i := 3) (N := some 30) (v := ?_) (a' := ?_) #[true, false, false, true, false, false, false, false, false, false] rfl rfl (take_ofW HT_.out HW_.out (by kernel_rfl)) (fun _ _ _ h => h) (Or.inl ⟨by rfl, ?_⟩) hHeld ?_ ?_
          rotate_left
          · rintro w' ⟨s0, s1, s2, s3, s4, s5⟩
            go_simp
            with_reducible rfl
          rotate_left
          · simp only [Act.put, List.setIfInBounds_toArray, List.set_cons_zero, List.set_cons_succ, i64_w, i32_w]
            rfl
          refine one_ (i := 1) (N := some 28) #[true, true, false, true, false, false, false, false, false, false] rfl rfl (one_of HT_.out (by kernel_rfl)) (by decide) (fun K hK => ?_)
          refine goes_ Tryz.func16 (by kernel_rfl) rfl #[.int .i64 a0] (by rfl) rfl rfl (by (try simp only [List.map_toArray, List.map_cons, List.map_nil]); first | done | rfl | (simp only [List.length_drop, List.length_take]; rfl)) ?_
          with_reducible refine (spec_Decimal.calls kj2 a0 t298 _ A13.out).mono ?_
          rintro e w' ⟨rfl, ⟨nd, rfl⟩⟩
          refine ⟨_, rfl, ?_⟩
          refine hK.out _ _ ⟨(blk_cell BK290.out 0).trans rfl, (blk_cell BK290.out 1).trans rfl, (blk_cell BK290.out 2).trans rfl, (blk_cell BK290.out 3).trans rfl, (blk_cell BK290.out 4).trans rfl, (blk_cell BK290.out 5).trans rfl⟩ (fun hHeld => ?_)
          clear hK K
          refine norm_ (a' := ?_) ?_ ?_
          rotate_left
          · show Act.put _ (some 28) _ = _
            simp only [Act.put, List.setIfInBounds_toArray, List.set_cons_zero, List.set_cons_succ, i64_w, i32_w]
            rfl
          refine one_ (i := 2) (N := some 29) #[true, true, true, true, false, false, false, false, false, false] rfl rfl (one_of HT_.out (by kernel_rfl)) (by decide) (fun K hK => ?_)
          refine goes_ Tryz.func15 (by kernel_rfl) rfl #[.int .i64 5, .string t298] (by rfl) rfl rfl (by (try simp only [List.map_toArray, List.map_cons, List.map_nil]); first | done | rfl | (simp only [List.length_drop, List.length_take]; rfl)) ?_
          with_reducible refine (laws_stars.calls kj2 5 t298 t299 _ A14.out).mono ?_
          rintro e w' ⟨rfl, ⟨nd, rfl⟩⟩
          refine ⟨_, rfl, ?_⟩
          refine hK.out _ _ ⟨(blk_cell BK290.out 0).trans rfl, (blk_cell BK290.out 1).trans rfl, (blk_cell BK290.out 2).trans rfl, (blk_cell BK290.out 3).trans rfl, (blk_cell BK290.out 4).trans rfl, (blk_cell BK290.out 5).trans rfl⟩ (fun hHeld => ?_)
          clear hK K
          refine norm_ (a' := ?_) ?_ ?_
          rotate_left
          · show Act.put _ (some 29) _ = _
            simp only [Act.put, List.setIfInBounds_toArray, List.set_cons_zero, List.set_cons_succ, i64_w, i32_w]
            rfl
          refine one_ (i := 4) (N := some 31) #[true, true, true, true, true, false, false, false, false, false] rfl rfl (one_of HT_.out (by kernel_rfl)) (by decide) (fun K hK => ?_)
          refine goes_ Tryz.func24 (by kernel_rfl) rfl #[.string t299, .agg #[.int .i64 a1_0, .int .i64 a1_1, .int .i64 a1_2, .int .i64 0, .int .i64 0, .int .i64 0]] (by rfl) rfl rfl (by (try simp only [List.map_toArray, List.map_cons, List.map_nil]); first | done | rfl | (simp only [List.length_drop, List.length_take]; rfl)) ?_
          with_reducible refine (impl_Due.calls t299 a1_0 a1_1 a1_2 0 0 0 t300 false _ A15.out).mono ?_
          rintro e w87 ⟨rfl, hb⟩
          refine ⟨_, rfl, ?_⟩
          have n0_ := Aside0.mk (blk_below (g := gb290) (o := .cells #[.int .i64 a1_0, .int .i64 a1_1, .int .i64 a1_2, .int .i64 0, .int .i64 0, .int .i64 0] 23 (0, 0)) (by (with_reducible repeat (first | refine blk_drewN ?_ _ | refine blk_drew ?_ | refine blk_alloc ?_ _)); exact BK290.out) hb)
          have n1_ := Aside0.mk (below_step (by repeat (first | (with_reducible first | exact HB.out | apply below_alloc | apply pw_below_drewN | apply below_drew1 | refine below_set ?_ GE290.out) | exact HB.out)) hb)
          clear BK290
          clear HB
          have BK290 := n0_
          have HB := n1_
          clear n0_ n1_
          (try clear hb)
          (try clear hb2)
          (try clear hk)
          (try clear hi)
          refine hK.out _ _ ⟨(blk_cell BK290.out 0).trans rfl, (blk_cell BK290.out 1).trans rfl, (blk_cell BK290.out 2).trans rfl, (blk_cell BK290.out 3).trans rfl, (blk_cell BK290.out 4).trans rfl, (blk_cell BK290.out 5).trans rfl⟩ (fun hHeld => ?_)
          clear hK K
          refine norm_ (a' := ?_) ?_ ?_
          rotate_left
          · show Act.put _ (some 31) _ = _
            simp only [Act.put, List.setIfInBounds_toArray, List.set_cons_zero, List.set_cons_succ, i64_w, i32_w]
            rfl
          refine pure_ (i := 5) (N := some 26) (v := ?_) (a' := ?_) #[true, true, true, true, true, true, false, false, false, false] rfl rfl (any_of HT_.out (by kernel_rfl)) (fun _ _ _ h => h) (Or.inl ⟨by rfl, ?_⟩) ?_ ?_
          rotate_left
          · intro w'
            go_simp
            with_reducible rfl
          rotate_left
          · simp only [Act.put, List.setIfInBounds_toArray, List.set_cons_zero, List.set_cons_succ, i64_w, i32_w]
            rfl
          refine pure_ (i := 6) (N := some 32) (v := ?_) (a' := ?_) #[true, true, true, true, true, true, true, false, false, false] rfl rfl (any_of HT_.out (by kernel_rfl)) (fun _ _ _ h => h) (Or.inl ⟨by rfl, ?_⟩) ?_ ?_
          rotate_left
          · intro w'
            go_simp
            with_reducible rfl
          rotate_left
          · simp only [Act.put, List.setIfInBounds_toArray, List.set_cons_zero, List.set_cons_succ, i64_w, i32_w]
            rfl
          refine pure_ (i := 7) (N := some 33) (v := ?_) (a' := ?_) #[true, true, true, true, true, true, true, true, false, false] rfl rfl (any_of HT_.out (by kernel_rfl)) (fun _ _ _ h => h) (Or.inl ⟨by rfl, ?_⟩) ?_ ?_
          rotate_left
          · intro w'
            go_simp
            with_reducible rfl
          rotate_left
          · simp only [Act.put, List.setIfInBounds_toArray, List.set_cons_zero, List.set_cons_succ, i64_w, i32_w]
            rfl
          refine pure_ (i := 8) (N := some 5) (v := ?_) (a' := ?_) #[true, true, true, true, true, true, true, true, true, false] rfl rfl (any_of HT_.out (by kernel_rfl)) (fun _ _ _ h => h) (Or.inl ⟨by rfl, ?_⟩) ?_ ?_
          rotate_left
          · intro w'
            go_simp
            with_reducible rfl
          rotate_left
          · simp only [Act.put, List.setIfInBounds_toArray, List.set_cons_zero, List.set_cons_succ, i64_w, i32_w]
            rfl
          refine pure_ (i := 9) (N := some 6) (v := ?_) (a' := ?_) #[true, true, true, true, true, true, true, true, true, true] rfl rfl (any_of HT_.out (by kernel_rfl)) (fun _ _ _ h => h) (Or.inl ⟨by rfl, ?_⟩) ?_ ?_
          rotate_left
          · intro w'
            go_simp
            with_reducible rfl
          rotate_left
          · simp only [Act.put, List.setIfInBounds_toArray, List.set_cons_zero, List.set_cons_succ, i64_w, i32_w]
            rfl
          refine done_ (done_of HT_.out (by kernel_rfl)) ?_
          try go_wp2
          have n0_ := Aside0.mk (blk_drew BK290.out)
          have n1_ := Aside0.mk (below_drew1 HB.out)
          clear BK290
          clear HB
          have BK290 := n0_
          have HB := n1_
          clear n0_ n1_
          refine start_ (n := 10) (S := fun w' => w'.cell? ⟨gb290, 0, none⟩ = some (.int .i64 a1_0) ∧ w'.cell? ⟨gb290, 1, none⟩ = some (.int .i64 a1_1) ∧ w'.cell? ⟨gb290, 2, none⟩ = some (.int .i64 a1_2) ∧ w'.cell? ⟨gb290, 3, none⟩ = some (.int .i64 0) ∧ w'.cell? ⟨gb290, 4, none⟩ = some (.int .i64 0) ∧ w'.cell? ⟨gb290, 5, none⟩ = some (.int .i64 0)) (ds := []) #[false, false, false, false, false, false, false, false, false, false] (by kernel_rfl) rfl rfl ⟨(blk_cell BK290.out 0).trans rfl, (blk_cell BK290.out 1).trans rfl, (blk_cell BK290.out 2).trans rfl, (blk_cell BK290.out 3).trans rfl, (blk_cell BK290.out 4).trans rfl, (blk_cell BK290.out 5).trans rfl⟩ (fun hHeld => ?_); refine with_tabW laws_FnDayNames.tab5 laws_FnDayNames.bits5 (fun HT_ HW_ => ?_)
          generalize w87.drew = w88 at BK290 HB hHeld ⊢
          refine pure_ (i := 0) (N := some 35) (v := ?_) (a' := ?_) #[true, false, false, false, false, false, false, false, false, false] rfl rfl (any_of HT_.out (by kernel_rfl)) (fun _ _ _ h => h) (Or.inl ⟨by rfl, ?_⟩) ?_ ?_
          rotate_left
          · intro w'
            go_simp
            with_reducible rfl
          rotate_left
          · simp only [Act.put, List.setIfInBounds_toArray, List.set_cons_zero, List.set_cons_succ, i64_w, i32_w]
            rfl
          refine take_ (i := 3) (N := some 38) (v := ?_) (a' := ?_) #[true, false, false, true, false, false, false, false, false, false] rfl rfl (take_ofW HT_.out HW_.out (by kernel_rfl)) (fun _ _ _ h => h) (Or.inl ⟨by rfl, ?_⟩) hHeld ?_ ?_
          rotate_left
          · rintro w' ⟨s0, s1, s2, s3, s4, s5⟩
            go_simp
            with_reducible rfl
          rotate_left
          · simp only [Act.put, List.setIfInBounds_toArray, List.set_cons_zero, List.set_cons_succ, i64_w, i32_w]
            rfl
          refine one_ (i := 1) (N := some 36) #[true, true, false, true, false, false, false, false, false, false] rfl rfl (one_of HT_.out (by kernel_rfl)) (by decide) (fun K hK => ?_)
          refine goes_ Tryz.func25 (by kernel_rfl) rfl #[.int .i64 a0] (by rfl) rfl rfl (by (try simp only [List.map_toArray, List.map_cons, List.map_nil]); first | done | rfl | (simp only [List.length_drop, List.length_take]; rfl)) ?_
          with_reducible refine (spec_DayName.calls a0 t302 _ A16.out).mono ?_
          rintro e w' ⟨rfl, ⟨nd, rfl⟩⟩
          refine ⟨_, rfl, ?_⟩
          refine hK.out _ _ ⟨(blk_cell BK290.out 0).trans rfl, (blk_cell BK290.out 1).trans rfl, (blk_cell BK290.out 2).trans rfl, (blk_cell BK290.out 3).trans rfl, (blk_cell BK290.out 4).trans rfl, (blk_cell BK290.out 5).trans rfl⟩ (fun hHeld => ?_)
          clear hK K
          refine norm_ (a' := ?_) ?_ ?_
          rotate_left
          · show Act.put _ (some 36) _ = _
            simp only [Act.put, List.setIfInBounds_toArray, List.set_cons_zero, List.set_cons_succ, i64_w, i32_w]
            rfl
          refine one_ (i := 2) (N := some 37) #[true, true, true, true, false, false, false, false, false, false] rfl rfl (one_of HT_.out (by kernel_rfl)) (by decide) (fun K hK => ?_)
          refine goes_ Tryz.func15 (by kernel_rfl) rfl #[.int .i64 5, .string t302] (by rfl) rfl rfl (by (try simp only [List.map_toArray, List.map_cons, List.map_nil]); first | done | rfl | (simp only [List.length_drop, List.length_take]; rfl)) ?_
          with_reducible refine (laws_stars.calls kj2 5 t302 t303 _ A17.out).mono ?_
          rintro e w' ⟨rfl, ⟨nd, rfl⟩⟩
          refine ⟨_, rfl, ?_⟩
          refine hK.out _ _ ⟨(blk_cell BK290.out 0).trans rfl, (blk_cell BK290.out 1).trans rfl, (blk_cell BK290.out 2).trans rfl, (blk_cell BK290.out 3).trans rfl, (blk_cell BK290.out 4).trans rfl, (blk_cell BK290.out 5).trans rfl⟩ (fun hHeld => ?_)
          clear hK K
          refine norm_ (a' := ?_) ?_ ?_
          rotate_left
          · show Act.put _ (some 37) _ = _
            simp only [Act.put, List.setIfInBounds_toArray, List.set_cons_zero, List.set_cons_succ, i64_w, i32_w]
            rfl
          refine one_ (i := 4) (N := some 39) #[true, true, true, true, true, false, false, false, false, false] rfl rfl (one_of HT_.out (by kernel_rfl)) (by decide) (fun K hK => ?_)
          refine goes_ Tryz.func24 (by kernel_rfl) rfl #[.string t303, .agg #[.int .i64 a1_0, .int .i64 a1_1, .int .i64 a1_2, .int .i64 0, .int .i64 0, .int .i64 0]] (by rfl) rfl rfl (by (try simp only [List.map_toArray, List.map_cons, List.map_nil]); first | done | rfl | (simp only [List.length_drop, List.length_take]; rfl)) ?_
          with_reducible refine (impl_Due.calls t303 a1_0 a1_1 a1_2 0 0 0 t304 t305 _ A18.out).mono ?_
          rintro e w89 ⟨rfl, hb⟩
          refine ⟨_, rfl, ?_⟩
          have n0_ := Aside0.mk (blk_below (g := gb290) (o := .cells #[.int .i64 a1_0, .int .i64 a1_1, .int .i64 a1_2, .int .i64 0, .int .i64 0, .int .i64 0] 23 (0, 0)) (by (with_reducible repeat (first | refine blk_drewN ?_ _ | refine blk_drew ?_ | refine blk_alloc ?_ _)); exact BK290.out) hb)
          have n1_ := Aside0.mk (below_step (by repeat (first | (with_reducible first | exact HB.out | apply below_alloc | apply pw_below_drewN | apply below_drew1 | refine below_set ?_ GE290.out) | exact HB.out)) hb)
          clear BK290
          clear HB
          have BK290 := n0_
          have HB := n1_
          clear n0_ n1_
          (try clear hb)
          (try clear hb2)
          (try clear hk)
          (try clear hi)
          refine hK.out _ _ ⟨(blk_cell BK290.out 0).trans rfl, (blk_cell BK290.out 1).trans rfl, (blk_cell BK290.out 2).trans rfl, (blk_cell BK290.out 3).trans rfl, (blk_cell BK290.out 4).trans rfl, (blk_cell BK290.out 5).trans rfl⟩ (fun hHeld => ?_)
          clear hK K
          refine norm_ (a' := ?_) ?_ ?_
          rotate_left
          · show Act.put _ (some 39) _ = _
            simp only [Act.put, List.setIfInBounds_toArray, List.set_cons_zero, List.set_cons_succ, i64_w, i32_w]
            rfl
          refine pure_ (i := 5) (N := some 34) (v := ?_) (a' := ?_) #[true, true, true, true, true, true, false, false, false, false] rfl rfl (any_of HT_.out (by kernel_rfl)) (fun _ _ _ h => h) (Or.inl ⟨by rfl, ?_⟩) ?_ ?_
          rotate_left
          · intro w'
            go_simp
            with_reducible rfl
          rotate_left
          · simp only [Act.put, List.setIfInBounds_toArray, List.set_cons_zero, List.set_cons_succ, i64_w, i32_w]
            rfl
          refine pure_ (i := 6) (N := some 40) (v := ?_) (a' := ?_) #[true, true, true, true, true, true, true, false, false, false] rfl rfl (any_of HT_.out (by kernel_rfl)) (fun _ _ _ h => h) (Or.inl ⟨by rfl, ?_⟩) ?_ ?_
          rotate_left
          · intro w'
            go_simp
            with_reducible rfl
          rotate_left
          · simp only [Act.put, List.setIfInBounds_toArray, List.set_cons_zero, List.set_cons_succ, i64_w, i32_w]
            rfl
          refine pure_ (i := 7) (N := some 41) (v := ?_) (a' := ?_) #[true, true, true, true, true, true, true, true, false, false] rfl rfl (any_of HT_.out (by kernel_rfl)) (fun _ _ _ h => h) (Or.inl ⟨by rfl, ?_⟩) ?_ ?_
          rotate_left
          · intro w'
            go_simp
            with_reducible rfl
          rotate_left
          · simp only [Act.put, List.setIfInBounds_toArray, List.set_cons_zero, List.set_cons_succ, i64_w, i32_w]
            rfl
          refine pure_ (i := 8) (N := some 7) (v := ?_) (a' := ?_) #[true, true, true, true, true, true, true, true, true, false] rfl rfl (any_of HT_.out (by kernel_rfl)) (fun _ _ _ h => h) (Or.inl ⟨by rfl, ?_⟩) ?_ ?_
          rotate_left
          · intro w'
            go_simp
            with_reducible rfl
          rotate_left
          · simp only [Act.put, List.setIfInBounds_toArray, List.set_cons_zero, List.set_cons_succ, i64_w, i32_w]
            rfl
          refine pure_ (i := 9) (N := some 8) (v := ?_) (a' := ?_) #[true, true, true, true, true, true, true, true, true, true] rfl rfl (any_of HT_.out (by kernel_rfl)) (fun _ _ _ h => h) (Or.inl ⟨by rfl, ?_⟩) ?_ ?_
          rotate_left
          · intro w'
            go_simp
            with_reducible rfl
          rotate_left
          · simp only [Act.put, List.setIfInBounds_toArray, List.set_cons_zero, List.set_cons_succ, i64_w, i32_w]
            rfl
          refine done_ (done_of HT_.out (by kernel_rfl)) ?_
          try go_wp2
          have n0_ := Aside0.mk (blk_drew BK290.out)
          have n1_ := Aside0.mk (below_drew1 HB.out)
          clear BK290
          clear HB
          have BK290 := n0_
          have HB := n1_
          clear n0_ n1_
          refine start_ (n := 11) (S := fun w' => w'.cell? ⟨gb290, 0, none⟩ = some (.int .i64 a1_0) ∧ w'.cell? ⟨gb290, 1, none⟩ = some (.int .i64 a1_1) ∧ w'.cell? ⟨gb290, 2, none⟩ = some (.int .i64 a1_2) ∧ w'.cell? ⟨gb290, 3, none⟩ = some (.int .i64 0) ∧ w'.cell? ⟨gb290, 4, none⟩ = some (.int .i64 0) ∧ w'.cell? ⟨gb290, 5, none⟩ = some (.int .i64 0)) (ds := []) #[false, false, false, false, false, false, false, false, false, false, false] (by kernel_rfl) rfl rfl ⟨(blk_cell BK290.out 0).trans rfl, (blk_cell BK290.out 1).trans rfl, (blk_cell BK290.out 2).trans rfl, (blk_cell BK290.out 3).trans rfl, (blk_cell BK290.out 4).trans rfl, (blk_cell BK290.out 5).trans rfl⟩ (fun hHeld => ?_); refine with_tabW laws_FnDayNames.tab6 laws_FnDayNames.bits6 (fun HT_ HW_ => ?_)
          generalize w89.drew = w90 at BK290 HB hHeld ⊢
          refine pure_ (i := 0) (N := some 43) (v := ?_) (a' := ?_) #[true, false, false, false, false, false, false, false, false, false, false] rfl rfl (any_of HT_.out (by kernel_rfl)) (fun _ _ _ h => h) (Or.inl ⟨by rfl, ?_⟩) ?_ ?_
          rotate_left
          · intro w'
            go_simp
            with_reducible rfl
          rotate_left
          · simp only [Act.put, List.setIfInBounds_toArray, List.set_cons_zero, List.set_cons_succ, i64_w, i32_w]
            rfl
          refine take_ (i := 4) (N := some 47) (v := ?_) (a' := ?_) #[true, false, false, false, true, false, false, false, false, false, false] rfl rfl (take_ofW HT_.out HW_.out (by kernel_rfl)) (fun _ _ _ h => h) (Or.inl ⟨by rfl, ?_⟩) hHeld ?_ ?_
          rotate_left
          · rintro w' ⟨s0, s1, s2, s3, s4, s5⟩
            go_simp
            with_reducible rfl
          rotate_left
          · simp only [Act.put, List.setIfInBounds_toArray, List.set_cons_zero, List.set_cons_succ, i64_w, i32_w]
            rfl
          refine one_ (i := 1) (N := some 44) #[true, true, false, false, true, false, false, false, false, false, false] rfl rfl (one_of HT_.out (by kernel_rfl)) (by decide) (fun K hK => ?_)
          refine goes_ Tryz.func25 (by kernel_rfl) rfl #[.int .i64 a0] (by rfl) rfl rfl (by (try simp only [List.map_toArray, List.map_cons, List.map_nil]); first | done | rfl | (simp only [List.length_drop, List.length_take]; rfl)) ?_
          with_reducible refine (spec_DayName.calls a0 t306 _ A19.out).mono ?_
          rintro e w' ⟨rfl, ⟨nd, rfl⟩⟩
          refine ⟨_, rfl, ?_⟩
          refine hK.out _ _ ⟨(blk_cell BK290.out 0).trans rfl, (blk_cell BK290.out 1).trans rfl, (blk_cell BK290.out 2).trans rfl, (blk_cell BK290.out 3).trans rfl, (blk_cell BK290.out 4).trans rfl, (blk_cell BK290.out 5).trans rfl⟩ (fun hHeld => ?_)
          clear hK K
          refine norm_ (a' := ?_) ?_ ?_
          rotate_left
          · show Act.put _ (some 44) _ = _
            simp only [Act.put, List.setIfInBounds_toArray, List.set_cons_zero, List.set_cons_succ, i64_w, i32_w]
            rfl
          refine one_ (i := 2) (N := some 45) #[true, true, true, false, true, false, false, false, false, false, false] rfl rfl (one_of HT_.out (by kernel_rfl)) (by decide) (fun K hK => ?_)
          refine goes_ Tryz.func26 (by kernel_rfl) rfl #[.string t306] (by rfl) rfl rfl (by (try simp only [List.map_toArray, List.map_cons, List.map_nil]); first | done | rfl | (simp only [List.length_drop, List.length_take]; rfl)) ?_
          with_reducible refine (spec_Lower.calls t306 t307 _ A20.out).mono ?_
          rintro e w91 ⟨rfl, hb⟩
          refine ⟨_, rfl, ?_⟩
          have n0_ := Aside0.mk (blk_below (g := gb290) (o := .cells #[.int .i64 a1_0, .int .i64 a1_1, .int .i64 a1_2, .int .i64 0, .int .i64 0, .int .i64 0] 23 (0, 0)) (by (with_reducible repeat (first | refine blk_drewN ?_ _ | refine blk_drew ?_ | refine blk_alloc ?_ _)); exact BK290.out) hb)
          have n1_ := Aside0.mk (below_step (by repeat (first | (with_reducible first | exact HB.out | apply below_alloc | apply pw_below_drewN | apply below_drew1 | refine below_set ?_ GE290.out) | exact HB.out)) hb)
          clear BK290
          clear HB
          have BK290 := n0_
          have HB := n1_
          clear n0_ n1_
          (try clear hb)
          (try clear hb2)
          (try clear hk)
          (try clear hi)
          refine hK.out _ _ ⟨(blk_cell BK290.out 0).trans rfl, (blk_cell BK290.out 1).trans rfl, (blk_cell BK290.out 2).trans rfl, (blk_cell BK290.out 3).trans rfl, (blk_cell BK290.out 4).trans rfl, (blk_cell BK290.out 5).trans rfl⟩ (fun hHeld => ?_)
          clear hK K
          refine norm_ (a' := ?_) ?_ ?_
          rotate_left
          · show Act.put _ (some 45) _ = _
            simp only [Act.put, List.setIfInBounds_toArray, List.set_cons_zero, List.set_cons_succ, i64_w, i32_w]
            rfl
          refine one_ (i := 3) (N := some 46) #[true, true, true, true, true, false, false, false, false, false, false] rfl rfl (one_of HT_.out (by kernel_rfl)) (by decide) (fun K hK => ?_)
          refine goes_ Tryz.func15 (by kernel_rfl) rfl #[.int .i64 5, .string t307] (by rfl) rfl rfl (by (try simp only [List.map_toArray, List.map_cons, List.map_nil]); first | done | rfl | (simp only [List.length_drop, List.length_take]; rfl)) ?_
          with_reducible refine (laws_stars.calls kj2 5 t307 t308 _ A21.out).mono ?_
          rintro e w' ⟨rfl, ⟨nd, rfl⟩⟩
          refine ⟨_, rfl, ?_⟩
          refine hK.out _ _ ⟨(blk_cell BK290.out 0).trans rfl, (blk_cell BK290.out 1).trans rfl, (blk_cell BK290.out 2).trans rfl, (blk_cell BK290.out 3).trans rfl, (blk_cell BK290.out 4).trans rfl, (blk_cell BK290.out 5).trans rfl⟩ (fun hHeld => ?_)
          clear hK K
          refine norm_ (a' := ?_) ?_ ?_
          rotate_left
          · show Act.put _ (some 46) _ = _
            simp only [Act.put, List.setIfInBounds_toArray, List.set_cons_zero, List.set_cons_succ, i64_w, i32_w]
            rfl
          refine one_ (i := 5) (N := some 48) #[true, true, true, true, true, true, false, false, false, false, false] rfl rfl (one_of HT_.out (by kernel_rfl)) (by decide) (fun K hK => ?_)
          refine goes_ Tryz.func24 (by kernel_rfl) rfl #[.string t308, .agg #[.int .i64 a1_0, .int .i64 a1_1, .int .i64 a1_2, .int .i64 0, .int .i64 0, .int .i64 0]] (by rfl) rfl rfl (by (try simp only [List.map_toArray, List.map_cons, List.map_nil]); first | done | rfl | (simp only [List.length_drop, List.length_take]; rfl)) ?_
          with_reducible refine (impl_Due.calls t308 a1_0 a1_1 a1_2 0 0 0 t309 t310 _ A22.out).mono ?_
          rintro e w92 ⟨rfl, hb⟩
          refine ⟨_, rfl, ?_⟩
          have n0_ := Aside0.mk (blk_below (g := gb290) (o := .cells #[.int .i64 a1_0, .int .i64 a1_1, .int .i64 a1_2, .int .i64 0, .int .i64 0, .int .i64 0] 23 (0, 0)) (by (with_reducible repeat (first | refine blk_drewN ?_ _ | refine blk_drew ?_ | refine blk_alloc ?_ _)); exact BK290.out) hb)
          have n1_ := Aside0.mk (below_step (by repeat (first | (with_reducible first | exact HB.out | apply below_alloc | apply pw_below_drewN | apply below_drew1 | refine below_set ?_ GE290.out) | exact HB.out)) hb)
          clear BK290
          clear HB
          have BK290 := n0_
          have HB := n1_
          clear n0_ n1_
          (try clear hb)
          (try clear hb2)
          (try clear hk)
          (try clear hi)
          refine hK.out _ _ ⟨(blk_cell BK290.out 0).trans rfl, (blk_cell BK290.out 1).trans rfl, (blk_cell BK290.out 2).trans rfl, (blk_cell BK290.out 3).trans rfl, (blk_cell BK290.out 4).trans rfl, (blk_cell BK290.out 5).trans rfl⟩ (fun hHeld => ?_)
          clear hK K
          refine norm_ (a' := ?_) ?_ ?_
          rotate_left
          · show Act.put _ (some 48) _ = _
            simp only [Act.put, List.setIfInBounds_toArray, List.set_cons_zero, List.set_cons_succ, i64_w, i32_w]
            rfl
          refine pure_ (i := 6) (N := some 42) (v := ?_) (a' := ?_) #[true, true, true, true, true, true, true, false, false, false, false] rfl rfl (any_of HT_.out (by kernel_rfl)) (fun _ _ _ h => h) (Or.inl ⟨by rfl, ?_⟩) ?_ ?_
          rotate_left
          · intro w'
            go_simp
            with_reducible rfl
          rotate_left
          · simp only [Act.put, List.setIfInBounds_toArray, List.set_cons_zero, List.set_cons_succ, i64_w, i32_w]
            rfl
          refine pure_ (i := 7) (N := some 49) (v := ?_) (a' := ?_) #[true, true, true, true, true, true, true, true, false, false, false] rfl rfl (any_of HT_.out (by kernel_rfl)) (fun _ _ _ h => h) (Or.inl ⟨by rfl, ?_⟩) ?_ ?_
          rotate_left
          · intro w'
            go_simp
            with_reducible rfl
          rotate_left
          · simp only [Act.put, List.setIfInBounds_toArray, List.set_cons_zero, List.set_cons_succ, i64_w, i32_w]
            rfl
          refine pure_ (i := 8) (N := some 50) (v := ?_) (a' := ?_) #[true, true, true, true, true, true, true, true, true, false, false] rfl rfl (any_of HT_.out (by kernel_rfl)) (fun _ _ _ h => h) (Or.inl ⟨by rfl, ?_⟩) ?_ ?_
          rotate_left
          · intro w'
            go_simp
            with_reducible rfl
          rotate_left
          · simp only [Act.put, List.setIfInBounds_toArray, List.set_cons_zero, List.set_cons_succ, i64_w, i32_w]
            rfl
          refine pure_ (i := 9) (N := some 9) (v := ?_) (a' := ?_) #[true, true, true, true, true, true, true, true, true, true, false] rfl rfl (any_of HT_.out (by kernel_rfl)) (fun _ _ _ h => h) (Or.inl ⟨by rfl, ?_⟩) ?_ ?_
          rotate_left
          · intro w'
            go_simp
            with_reducible rfl
          rotate_left
          · simp only [Act.put, List.setIfInBounds_toArray, List.set_cons_zero, List.set_cons_succ, i64_w, i32_w]
            rfl
          refine pure_ (i := 10) (N := some 10) (v := ?_) (a' := ?_) #[true, true, true, true, true, true, true, true, true, true, true] rfl rfl (any_of HT_.out (by kernel_rfl)) (fun _ _ _ h => h) (Or.inl ⟨by rfl, ?_⟩) ?_ ?_
          rotate_left
          · intro w'
            go_simp
            with_reducible rfl
          rotate_left
          · simp only [Act.put, List.setIfInBounds_toArray, List.set_cons_zero, List.set_cons_succ, i64_w, i32_w]
            rfl
          refine done_ (done_of HT_.out (by kernel_rfl)) ?_
          try go_wp2
          go_ret
          exact ⟨by first | rfl | (simp [errW_none, errW_some] <;> rfl) | (simp [*, errW_none, errW_some] <;> rfl), by repeat (first | (with_reducible first | exact HB.out | apply below_alloc | apply pw_below_drewN | apply below_drew1 | refine below_set ?_ GE290.out) | exact HB.out)⟩
end Go.Proofs.YtkhgeonlohafgaaGreatDoor.Core
namespace Go.Proofs.YtkhgeonlohafgaaGreatDoor.Core
open Go.RowKit Go.Proofs.YtkhgeonlohafgaaGreatDoorW.PrintWords Go.Proofs.YtkhgeonlohafgaaGreatDoorW.PrintLast Go.Proofs.YtkhgeonlohafgaaGreatDoorW.PrintMore
attribute [local go_sem] max2_int min2_int max_two min_two max_three min_three max_four min_four   -- for this text's walks alone
set_option linter.unusedVariables false
set_option linter.unusedSimpArgs false
theorem eqA57 (d : Nat) (w : World) (x0 y0 : Bool) (x1 y1 : Int) (x2 y2 : Int) (x3 y3 : Int) :
    (Op.equalIn (d + 2) 57 (.agg #[.bool x0, .int .i64 x1, .int .i64 x2, .int .i64 x3]) (.agg #[.bool y0, .int .i64 y1, .int .i64 y2, .int .i64 y3])).run Tryz.prog w = .ok (x0 == y0 && (x1 == y1 && (x2 == y2 && (x3 == y3)))) w := by
  refine eqA_of Tryz.underlying57 (by kernel_rfl) ?_
  refine eqf_cons (by rfl) (by go_simp; rfl) (by go_simp; rfl) (by go_simp) ?_
  refine eqf_cons (by rfl) (by go_simp; rfl) (by go_simp; rfl) (by go_simp) ?_
  refine eqf_cons (by rfl) (by go_simp; rfl) (by go_simp; rfl) (by go_simp) ?_
  exact eqf_last (by rfl) (by go_simp; rfl) (by go_simp; rfl) (by go_simp)
end Go.Proofs.YtkhgeonlohafgaaGreatDoor.Core
namespace Go.Proofs.YtkhgeonlohafgaaGreatDoor.Core
open Go.RowKit Go.Proofs.YtkhgeonlohafgaaGreatDoorW.PrintWords Go.Proofs.YtkhgeonlohafgaaGreatDoorW.PrintLast Go.Proofs.YtkhgeonlohafgaaGreatDoorW.PrintMore
attribute [local go_sem] max2_int min2_int max_two min_two max_three min_three max_four min_four   -- for this text's walks alone
set_option linter.unusedVariables false
set_option linter.unusedSimpArgs false
end Go.Proofs.YtkhgeonlohafgaaGreatDoor.Core
namespace Go.Proofs.YtkhgeonlohafgaaGreatDoor.Core
open Go.RowKit Go.Proofs.YtkhgeonlohafgaaGreatDoorW.PrintWords Go.Proofs.YtkhgeonlohafgaaGreatDoorW.PrintLast Go.Proofs.YtkhgeonlohafgaaGreatDoorW.PrintMore
attribute [local go_sem] max2_int min2_int max_two min_two max_three min_three max_four min_four   -- for this text's walks alone
set_option linter.unusedVariables false
set_option linter.unusedSimpArgs false
end Go.Proofs.YtkhgeonlohafgaaGreatDoor.Core
namespace Go.Proofs.YtkhgeonlohafgaaGreatDoor.Core
open Go.RowKit Go.Proofs.YtkhgeonlohafgaaGreatDoorW.PrintWords Go.Proofs.YtkhgeonlohafgaaGreatDoorW.PrintLast Go.Proofs.YtkhgeonlohafgaaGreatDoorW.PrintMore
attribute [local go_sem] max2_int min2_int max_two min_two max_three min_three max_four min_four   -- for this text's walks alone
set_option linter.unusedVariables false
set_option linter.unusedSimpArgs false
end Go.Proofs.YtkhgeonlohafgaaGreatDoor.Core
namespace Go.Proofs.YtkhgeonlohafgaaGreatDoor.Core
open Go.RowKit Go.Proofs.YtkhgeonlohafgaaGreatDoorW.PrintWords Go.Proofs.YtkhgeonlohafgaaGreatDoorW.PrintLast Go.Proofs.YtkhgeonlohafgaaGreatDoorW.PrintMore
attribute [local go_sem] max2_int min2_int max_two min_two max_three min_three max_four min_four   -- for this text's walks alone
set_option linter.unusedVariables false
set_option linter.unusedSimpArgs false
end Go.Proofs.YtkhgeonlohafgaaGreatDoor.Core
namespace Go.Proofs.YtkhgeonlohafgaaGreatDoor.Core
open Go.RowKit Go.Proofs.YtkhgeonlohafgaaGreatDoorW.PrintWords Go.Proofs.YtkhgeonlohafgaaGreatDoorW.PrintLast Go.Proofs.YtkhgeonlohafgaaGreatDoorW.PrintMore
attribute [local go_sem] max2_int min2_int max_two min_two max_three min_three max_four min_four   -- for this text's walks alone
set_option linter.unusedVariables false
set_option linter.unusedSimpArgs false
attribute [local go_sem high] eqA57
end Go.Proofs.YtkhgeonlohafgaaGreatDoor.Core
namespace Go.Proofs.YtkhgeonlohafgaaGreatDoor.Core
open Go.RowKit Go.Proofs.YtkhgeonlohafgaaGreatDoorW.PrintWords Go.Proofs.YtkhgeonlohafgaaGreatDoorW.PrintLast Go.Proofs.YtkhgeonlohafgaaGreatDoorW.PrintMore
attribute [local go_sem] max2_int min2_int max_two min_two max_three min_three max_four min_four   -- for this text's walks alone
set_option linter.unusedVariables false
set_option linter.unusedSimpArgs false
end Go.Proofs.YtkhgeonlohafgaaGreatDoor.Core
namespace Go.Proofs.YtkhgeonlohafgaaGreatDoor.Core
open Go.RowKit Go.Proofs.YtkhgeonlohafgaaGreatDoorW.PrintWords Go.Proofs.YtkhgeonlohafgaaGreatDoorW.PrintLast Go.Proofs.YtkhgeonlohafgaaGreatDoorW.PrintMore
attribute [local go_sem] max2_int min2_int max_two min_two max_three min_three max_four min_four   -- for this text's walks alone
set_option linter.unusedVariables false
set_option linter.unusedSimpArgs false
def gotime_dateToAbsDays.f (a0 : Int) (a1 : Int) (a2 : Int) : Option (Int) := if ((a1) % 4294967296) < 3 then (some (IntKind.u64.wrap ((IntKind.u64.wrap (Int.tdiv (IntKind.u64.wrap (146097 * (IntKind.u64.wrap (Int.tdiv (IntKind.u64.wrap ((IntKind.u64.wrap ((IntKind.u64.wrap (a0)) - 1)) + 292277022400)) 100)))) 4)) + (IntKind.u64.wrap (wrap64 ((wrap64 ((((((1461 * ((Int.tmod (IntKind.u64.wrap ((IntKind.u64.wrap ((IntKind.u64.wrap (a0)) - 1)) + 292277022400)) 100) % 4294967296)) % 4294967296) / 4) + (((((979 * ((((a1) % 4294967296) + (12 * 1)) % 4294967296)) % 4294967296) - 2919) % 4294967296) / 32)) % 4294967296) + a2)) - 1)))))) else (some (IntKind.u64.wrap ((IntKind.u64.wrap (Int.tdiv (IntKind.u64.wrap (146097 * (IntKind.u64.wrap (Int.tdiv (IntKind.u64.wrap ((IntKind.u64.wrap ((IntKind.u64.wrap (a0)) - 0)) + 292277022400)) 100)))) 4)) + (IntKind.u64.wrap (wrap64 ((wrap64 ((((((1461 * ((Int.tmod (IntKind.u64.wrap ((IntKind.u64.wrap ((IntKind.u64.wrap (a0)) - 0)) + 292277022400)) 100) % 4294967296)) % 4294967296) / 4) + (((((979 * (((a1) % 4294967296) + (12 * 0))) % 4294967296) - 2919) % 4294967296) / 32)) % 4294967296) + a2)) - 1))))))
set_option maxHeartbeats 8000000 in
set_option maxRecDepth 100000 in
theorem gotime_dateToAbsDays.calls (a0 : Int) (a1 : Int) (a2 : Int) (r : Int) (w : World) (h : gotime_dateToAbsDays.f a0 a1 a2 = some r) :
    Calls Tryz.prog 69 #[.int .i64 a0, .int .i64 a1, .int .i64 a2] w fun e w' => e = .returned (.int .u64 r) ∧ Drawn0 w w' := by
  have H : (if ((a1) % 4294967296) < 3 then (some (IntKind.u64.wrap ((IntKind.u64.wrap (Int.tdiv (IntKind.u64.wrap (146097 * (IntKind.u64.wrap (Int.tdiv (IntKind.u64.wrap ((IntKind.u64.wrap ((IntKind.u64.wrap (a0)) - 1)) + 292277022400)) 100)))) 4)) + (IntKind.u64.wrap (wrap64 ((wrap64 ((((((1461 * ((Int.tmod (IntKind.u64.wrap ((IntKind.u64.wrap ((IntKind.u64.wrap (a0)) - 1)) + 292277022400)) 100) % 4294967296)) % 4294967296) / 4) + (((((979 * ((((a1) % 4294967296) + (12 * 1)) % 4294967296)) % 4294967296) - 2919) % 4294967296) / 32)) % 4294967296) + a2)) - 1)))))) else (some (IntKind.u64.wrap ((IntKind.u64.wrap (Int.tdiv (IntKind.u64.wrap (146097 * (IntKind.u64.wrap (Int.tdiv (IntKind.u64.wrap ((IntKind.u64.wrap ((IntKind.u64.wrap (a0)) - 0)) + 292277022400)) 100)))) 4)) + (IntKind.u64.wrap (wrap64 ((wrap64 ((((((1461 * ((Int.tmod (IntKind.u64.wrap ((IntKind.u64.wrap ((IntKind.u64.wrap (a0)) - 0)) + 292277022400)) 100) % 4294967296)) % 4294967296) / 4) + (((((979 * (((a1) % 4294967296) + (12 * 0))) % 4294967296) - 2919) % 4294967296) / 32)) % 4294967296) + a2)) - 1))))))) = some r := h
  clear h
  by_cases c4 : ((a1) % 4294967296) < 3
  · rw [if_pos c4] at H
    have c4b0 : decide (((a1) % 4294967296) < 3) = true := decide_eq_true c4
    clear c4
    obtain rfl := Option.some.inj H
    go_enter Tryz.func69, Tryz.ntmps69
    go_wp2
    go_ret
    exact ⟨by first | rfl | (simp; done) | (simp [*]; done), by repeat (first | exact Drawn0.refl _ | apply Drawn0.step)⟩
  · rw [if_neg c4] at H
    have c4b0 : decide (((a1) % 4294967296) < 3) = false := decide_eq_false c4
    clear c4
    obtain rfl := Option.some.inj H
    go_enter Tryz.func69, Tryz.ntmps69
    go_wp2
    go_ret
    exact ⟨by first | rfl | (simp; done) | (simp [*]; done), by repeat (first | exact Drawn0.refl _ | apply Drawn0.step)⟩
end Go.Proofs.YtkhgeonlohafgaaGreatDoor.Core
namespace Go.Proofs.YtkhgeonlohafgaaGreatDoor.Core
open Go.RowKit Go.Proofs.YtkhgeonlohafgaaGreatDoorW.PrintWords Go.Proofs.YtkhgeonlohafgaaGreatDoorW.PrintLast Go.Proofs.YtkhgeonlohafgaaGreatDoorW.PrintMore
attribute [local go_sem] max2_int min2_int max_two min_two max_three min_three max_four min_four   -- for this text's walks alone
set_option linter.unusedVariables false
set_option linter.unusedSimpArgs false
def bits_Mul32.f (a0 : Int) (a1 : Int) : Option (Int × Int) := some (((IntKind.u64.wrap ((IntKind.u64.wrap (a0)) * (IntKind.u64.wrap (a1)))) / 4294967296) % 4294967296, (IntKind.u64.wrap ((IntKind.u64.wrap (a0)) * (IntKind.u64.wrap (a1)))) % 4294967296)
set_option maxHeartbeats 8000000 in
set_option maxRecDepth 100000 in
theorem bits_Mul32.calls (a0 : Int) (a1 : Int) (r1 : Int) (r2 : Int) (w : World) (h : bits_Mul32.f a0 a1 = some (r1, r2)) :
    Calls Tryz.prog 116 #[.int .u32 a0, .int .u32 a1] w fun e w' => e = .returned (.tuple #[.int .u32 r1, .int .u32 r2]) ∧ Drawn0 w w' := by
  have H : (some (((IntKind.u64.wrap ((IntKind.u64.wrap (a0)) * (IntKind.u64.wrap (a1)))) / 4294967296) % 4294967296, (IntKind.u64.wrap ((IntKind.u64.wrap (a0)) * (IntKind.u64.wrap (a1)))) % 4294967296)) = some (r1, r2) := h
  clear h
  simp only [Option.some.injEq, Prod.mk.injEq] at H
  obtain ⟨rfl, rfl⟩ := H
  go_enter Tryz.func116, Tryz.ntmps116
  go_wp2
  go_ret2
  exact ⟨by first | rfl | (simp; done) | (simp [*]; done), by repeat (first | exact Drawn0.refl _ | apply Drawn0.step)⟩
end Go.Proofs.YtkhgeonlohafgaaGreatDoor.Core
namespace Go.Proofs.YtkhgeonlohafgaaGreatDoor.Core
open Go.RowKit Go.Proofs.YtkhgeonlohafgaaGreatDoorW.PrintWords Go.Proofs.YtkhgeonlohafgaaGreatDoorW.PrintLast Go.Proofs.YtkhgeonlohafgaaGreatDoorW.PrintMore
attribute [local go_sem] max2_int min2_int max_two min_two max_three min_three max_four min_four   -- for this text's walks alone
set_option linter.unusedVariables false
set_option linter.unusedSimpArgs false
def gotime_absDays_split.f (a0 : Int) : Option (Int × Int × Int) := (bits_Mul32.f 2939745 (Go.bits .or .u32 ((Int.tmod (IntKind.u64.wrap ((IntKind.u64.wrap (4 * a0)) + 3)) 146097) % 4294967296) 3)).bind fun bt550 => (some (IntKind.u64.wrap (Int.tdiv (IntKind.u64.wrap ((IntKind.u64.wrap (4 * a0)) + 3)) 146097), wrap64 (bt550.1), ((Int.tdiv bt550.2 2939745) % 4294967296) / 4))
set_option maxHeartbeats 8000000 in
set_option maxRecDepth 100000 in
theorem gotime_absDays_split.calls (a0 : Int) (r1 : Int) (r2 : Int) (r3 : Int) (w : World) (h : gotime_absDays_split.f a0 = some (r1, r2, r3)) :
    Calls Tryz.prog 91 #[.int .u64 a0] w fun e w' => e = .returned (.tuple #[.int .u64 r1, .int .i64 r2, .int .i64 r3]) ∧ Drawn0 w w' := by
  have H : ((bits_Mul32.f 2939745 (Go.bits .or .u32 ((Int.tmod (IntKind.u64.wrap ((IntKind.u64.wrap (4 * a0)) + 3)) 146097) % 4294967296) 3)).bind fun bt550 => (some (IntKind.u64.wrap (Int.tdiv (IntKind.u64.wrap ((IntKind.u64.wrap (4 * a0)) + 3)) 146097), wrap64 (bt550.1), ((Int.tdiv bt550.2 2939745) % 4294967296) / 4))) = some (r1, r2, r3) := h
  clear h
  replace H := Option.bind_eq_some_iff.mp H
  obtain ⟨⟨t550, t551⟩, A20, H⟩ := H
  replace H : (some (IntKind.u64.wrap (Int.tdiv (IntKind.u64.wrap ((IntKind.u64.wrap (4 * a0)) + 3)) 146097), wrap64 (t550), ((Int.tdiv t551 2939745) % 4294967296) / 4)) = some (r1, r2, r3) := H
  have A2 := Aside0.mk A20
  clear A20
  simp only [Option.some.injEq, Prod.mk.injEq] at H
  obtain ⟨rfl, rfl, rfl⟩ := H
  go_enter Tryz.func91, Tryz.ntmps91
  go_wp2_with (first | ((with_reducible refine gate_callee (f := 116) rfl ?_); refine goesL_ (some 20) rfl rfl Tryz.func116 (by kernel_rfl) rfl #[.int .u32 2939745, .int .u32 (Go.bits .or .u32 ((Int.tmod (IntKind.u64.wrap ((IntKind.u64.wrap (4 * a0)) + 3)) 146097) % 4294967296) 3)] rfl (by (try simp only [List.map_toArray, List.map_cons, List.map_nil]); first | done | rfl | (simp only [List.length_drop, List.length_take]; rfl)) ?_; (with_reducible refine (bits_Mul32.calls 2939745 (Go.bits .or .u32 ((Int.tmod (IntKind.u64.wrap ((IntKind.u64.wrap (4 * a0)) + 3)) 146097) % 4294967296) 3) t550 t551 _ A2.out).mono ?_); rintro e w' ⟨rfl, ⟨nd, rfl⟩⟩; refine ⟨_, rfl, ?_⟩))
  go_ret3
  exact ⟨by first | rfl | (simp; done) | (simp [*]; done), by repeat (first | exact Drawn0.refl _ | apply Drawn0.step)⟩
end Go.Proofs.YtkhgeonlohafgaaGreatDoor.Core
namespace Go.Proofs.YtkhgeonlohafgaaGreatDoor.Core
open Go.RowKit Go.Proofs.YtkhgeonlohafgaaGreatDoorW.PrintWords Go.Proofs.YtkhgeonlohafgaaGreatDoorW.PrintLast Go.Proofs.YtkhgeonlohafgaaGreatDoorW.PrintMore
attribute [local go_sem] max2_int min2_int max_two min_two max_three min_three max_four min_four   -- for this text's walks alone
set_option linter.unusedVariables false
set_option linter.unusedSimpArgs false
def gotime_absYday_janFeb.f (a0 : Int) : Option (Int) := if a0 ≥ 306 then (some 1) else (some 0)
set_option maxHeartbeats 8000000 in
set_option maxRecDepth 100000 in
theorem gotime_absYday_janFeb.calls (a0 : Int) (r : Int) (w : World) (h : gotime_absYday_janFeb.f a0 = some r) :
    Calls Tryz.prog 92 #[.int .i64 a0] w fun e w' => e = .returned (.int .i64 r) ∧ Drawn0 w w' := by
  have H : (if a0 ≥ 306 then (some 1) else (some 0)) = some r := h
  clear h
  by_cases c2 : a0 ≥ 306
  · rw [if_pos c2] at H
    have c2b0 : decide (306 ≤ a0) = true := decide_eq_true c2
    clear c2
    obtain rfl := Option.some.inj H
    go_enter Tryz.func92, Tryz.ntmps92
    go_wp2
    go_ret
    exact ⟨by first | rfl | (simp; done) | (simp [*]; done), by repeat (first | exact Drawn0.refl _ | apply Drawn0.step)⟩
  · rw [if_neg c2] at H
    have c2b0 : decide (306 ≤ a0) = false := decide_eq_false c2
    clear c2
    obtain rfl := Option.some.inj H
    go_enter Tryz.func92, Tryz.ntmps92
    go_wp2
    go_ret
    exact ⟨by first | rfl | (simp; done) | (simp [*]; done), by repeat (first | exact Drawn0.refl _ | apply Drawn0.step)⟩
end Go.Proofs.YtkhgeonlohafgaaGreatDoor.Core
namespace Go.Proofs.YtkhgeonlohafgaaGreatDoor.Core
open Go.RowKit Go.Proofs.YtkhgeonlohafgaaGreatDoorW.PrintWords Go.Proofs.YtkhgeonlohafgaaGreatDoorW.PrintLast Go.Proofs.YtkhgeonlohafgaaGreatDoorW.PrintMore
attribute [local go_sem] max2_int min2_int max_two min_two max_three min_three max_four min_four   -- for this text's walks alone
set_option linter.unusedVariables false
set_option linter.unusedSimpArgs false
def gotime_absCentury_year.f (a0 : Int) (a1 : Int) (a2 : Int) : Option (Int) := some (wrap64 ((wrap64 ((wrap64 (IntKind.u64.wrap ((IntKind.u64.wrap (a0 * 100)) - 292277022400))) + a1)) + a2))
set_option maxHeartbeats 8000000 in
set_option maxRecDepth 100000 in
theorem gotime_absCentury_year.calls (a0 : Int) (a1 : Int) (a2 : Int) (r : Int) (w : World) (h : gotime_absCentury_year.f a0 a1 a2 = some r) :
    Calls Tryz.prog 93 #[.int .u64 a0, .int .i64 a1, .int .i64 a2] w fun e w' => e = .returned (.int .i64 r) ∧ Drawn0 w w' := by
  have H : (some (wrap64 ((wrap64 ((wrap64 (IntKind.u64.wrap ((IntKind.u64.wrap (a0 * 100)) - 292277022400))) + a1)) + a2))) = some r := h
  clear h
  obtain rfl := Option.some.inj H
  go_enter Tryz.func93, Tryz.ntmps93
  go_wp2
  go_ret
  exact ⟨by first | rfl | (simp; done) | (simp [*]; done), by repeat (first | exact Drawn0.refl _ | apply Drawn0.step)⟩
end Go.Proofs.YtkhgeonlohafgaaGreatDoor.Core
namespace Go.Proofs.YtkhgeonlohafgaaGreatDoor.Core
open Go.RowKit Go.Proofs.YtkhgeonlohafgaaGreatDoorW.PrintWords Go.Proofs.YtkhgeonlohafgaaGreatDoorW.PrintLast Go.Proofs.YtkhgeonlohafgaaGreatDoorW.PrintMore
attribute [local go_sem] max2_int min2_int max_two min_two max_three min_three max_four min_four   -- for this text's walks alone
set_option linter.unusedVariables false
set_option linter.unusedSimpArgs false
def gotime_absYday_split.f (a0 : Int) : Option (Int × Int) := some (((((2141 * ((a0) % 4294967296)) % 4294967296) + 197913) % 4294967296) / 65536, 1 + ((Int.tdiv (Go.bits .and .u32 ((((2141 * ((a0) % 4294967296)) % 4294967296) + 197913) % 4294967296) 65535) 2141) % 4294967296))
set_option maxHeartbeats 8000000 in
set_option maxRecDepth 100000 in
theorem gotime_absYday_split.calls (a0 : Int) (r1 : Int) (r2 : Int) (w : World) (h : gotime_absYday_split.f a0 = some (r1, r2)) :
    Calls Tryz.prog 94 #[.int .i64 a0] w fun e w' => e = .returned (.tuple #[.int .i64 r1, .int .i64 r2]) ∧ Drawn0 w w' := by
  have H : (some (((((2141 * ((a0) % 4294967296)) % 4294967296) + 197913) % 4294967296) / 65536, 1 + ((Int.tdiv (Go.bits .and .u32 ((((2141 * ((a0) % 4294967296)) % 4294967296) + 197913) % 4294967296) 65535) 2141) % 4294967296))) = some (r1, r2) := h
  clear h
  simp only [Option.some.injEq, Prod.mk.injEq] at H
  obtain ⟨rfl, rfl⟩ := H
  go_enter Tryz.func94, Tryz.ntmps94
  go_wp2
  go_ret2
  exact ⟨by first | rfl | (simp; done) | (simp [*]; done), by repeat (first | exact Drawn0.refl _ | apply Drawn0.step)⟩
end Go.Proofs.YtkhgeonlohafgaaGreatDoor.Core
namespace Go.Proofs.YtkhgeonlohafgaaGreatDoor.Core
open Go.RowKit Go.Proofs.YtkhgeonlohafgaaGreatDoorW.PrintWords Go.Proofs.YtkhgeonlohafgaaGreatDoorW.PrintLast Go.Proofs.YtkhgeonlohafgaaGreatDoorW.PrintMore
attribute [local go_sem] max2_int min2_int max_two min_two max_three min_three max_four min_four   -- for this text's walks alone
set_option linter.unusedVariables false
set_option linter.unusedSimpArgs false
def gotime_absMonth_month.f (a0 : Int) (a1 : Int) : Option (Int) := some (wrap64 (a0 - (wrap64 (a1 * 12))))
set_option maxHeartbeats 8000000 in
set_option maxRecDepth 100000 in
theorem gotime_absMonth_month.calls (a0 : Int) (a1 : Int) (r : Int) (w : World) (h : gotime_absMonth_month.f a0 a1 = some r) :
    Calls Tryz.prog 95 #[.int .i64 a0, .int .i64 a1] w fun e w' => e = .returned (.int .i64 r) ∧ Drawn0 w w' := by
  have H : (some (wrap64 (a0 - (wrap64 (a1 * 12))))) = some r := h
  clear h
  obtain rfl := Option.some.inj H
  go_enter Tryz.func95, Tryz.ntmps95
  go_wp2
  go_ret
  exact ⟨by first | rfl | (simp; done) | (simp [*]; done), by repeat (first | exact Drawn0.refl _ | apply Drawn0.step)⟩
end Go.Proofs.YtkhgeonlohafgaaGreatDoor.Core
namespace Go.Proofs.YtkhgeonlohafgaaGreatDoor.Core
open Go.RowKit Go.Proofs.YtkhgeonlohafgaaGreatDoorW.PrintWords Go.Proofs.YtkhgeonlohafgaaGreatDoorW.PrintLast Go.Proofs.YtkhgeonlohafgaaGreatDoorW.PrintMore
attribute [local go_sem] max2_int min2_int max_two min_two max_three min_three max_four min_four   -- for this text's walks alone
set_option linter.unusedVariables false
set_option linter.unusedSimpArgs false
end Go.Proofs.YtkhgeonlohafgaaGreatDoor.Core
namespace Go.Proofs.YtkhgeonlohafgaaGreatDoor.Core
open Go.RowKit Go.Proofs.YtkhgeonlohafgaaGreatDoorW.PrintWords Go.Proofs.YtkhgeonlohafgaaGreatDoorW.PrintLast Go.Proofs.YtkhgeonlohafgaaGreatDoorW.PrintMore
attribute [local go_sem] max2_int min2_int max_two min_two max_three min_three max_four min_four   -- for this text's walks alone
set_option linter.unusedVariables false
set_option linter.unusedSimpArgs false
def gotime_absDays_weekday.f (a0 : Int) : Option (Int) := some (wrap64 (Int.tmod (IntKind.u64.wrap (a0 + 3)) 7))
set_option maxHeartbeats 8000000 in
set_option maxRecDepth 100000 in
theorem gotime_absDays_weekday.calls (a0 : Int) (r : Int) (w : World) (h : gotime_absDays_weekday.f a0 = some r) :
    Calls Tryz.prog 111 #[.int .u64 a0] w fun e w' => e = .returned (.int .i64 r) ∧ Drawn0 w w' := by
  have H : (some (wrap64 (Int.tmod (IntKind.u64.wrap (a0 + 3)) 7))) = some r := h
  clear h
  obtain rfl := Option.some.inj H
  go_enter Tryz.func111, Tryz.ntmps111
  go_wp2
  go_ret
  exact ⟨by first | rfl | (simp; done) | (simp [*]; done), by repeat (first | exact Drawn0.refl _ | apply Drawn0.step)⟩
end Go.Proofs.YtkhgeonlohafgaaGreatDoor.Core
namespace Go.Proofs.YtkhgeonlohafgaaGreatDoor.Core
open Go.RowKit Go.Proofs.YtkhgeonlohafgaaGreatDoorW.PrintWords Go.Proofs.YtkhgeonlohafgaaGreatDoorW.PrintLast Go.Proofs.YtkhgeonlohafgaaGreatDoorW.PrintMore
attribute [local go_sem] max2_int min2_int max_two min_two max_three min_three max_four min_four   -- for this text's walks alone
set_option linter.unusedVariables false
set_option linter.unusedSimpArgs false
def gotime_absSeconds_days.f (a0 : Int) : Option (Int) := some (IntKind.u64.wrap (Int.tdiv a0 86400))
set_option maxHeartbeats 8000000 in
set_option maxRecDepth 100000 in
theorem gotime_absSeconds_days.calls (a0 : Int) (r : Int) (w : World) (h : gotime_absSeconds_days.f a0 = some r) :
    Calls Tryz.prog 90 #[.int .u64 a0] w fun e w' => e = .returned (.int .u64 r) ∧ Drawn0 w w' := by
  have H : (some (IntKind.u64.wrap (Int.tdiv a0 86400))) = some r := h
  clear h
  obtain rfl := Option.some.inj H
  go_enter Tryz.func90, Tryz.ntmps90
  go_wp2
  go_ret
  exact ⟨by first | rfl | (simp; done) | (simp [*]; done), by repeat (first | exact Drawn0.refl _ | apply Drawn0.step)⟩
end Go.Proofs.YtkhgeonlohafgaaGreatDoor.Core
namespace Go.Proofs.YtkhgeonlohafgaaGreatDoor.Core
open Go.RowKit Go.Proofs.YtkhgeonlohafgaaGreatDoorW.PrintWords
def B (l : List UInt8) : ByteArray := ⟨l.toArray⟩
theorem B_size (l : List UInt8) : (B l).size = l.length := by simp [B, ByteArray.size]
theorem B_data (l : List UInt8) : (B l).data.toList = l := by simp [B]
theorem B_list (l : List UInt8) : (B l).toList = l := by rw [Lib.toList_data, B_data]
theorem B_of (s : ByteArray) : B s.data.toList = s := by cases s; simp [B]
theorem B_inj {l m : List UInt8} (h : B l = B m) : l = m := by
  have := congrArg (fun s : ByteArray => s.data.toList) h
  simpa [B_data] using this
theorem B_ext_iff {s t : ByteArray} (h : s.data.toList = t.data.toList) : s = t := by rw [← B_of s, ← B_of t, h]
theorem B_app (l m : List UInt8) : B l ++ B m = B (l ++ m) := by
  apply B_ext_iff
  rw [B_data, ByteArray.data_append, Array.toList_append, B_data, B_data]
theorem B_cut (l : List UInt8) (i j : Nat) : (B l).extract i j = B ((l.drop i).take (j - i)) := by
  apply B_ext_iff
  rw [Lib.extract_data, B_data, B_data]
theorem B_bytesOf (l : List UInt8) : bytesOf (B l) = l.map fun b => (b.toNat : Int) := by rw [bytesOf, B_data]
theorem strOfNums_B (l : List UInt8) : strOfNums (l.map fun b => (b.toNat : Int)) = B l := by
  unfold strOfNums B
  congr 2
  rw [List.map_map]
  conv => rhs; rw [← List.map_id l]
  apply List.map_congr_left
  intro b _
  simp
theorem bt_B (l : List UInt8) (i : Int) (h0 : 0 ≤ i) (h : i < (l.length : Int)) : bt (B l) i = ((l[i.toNat]'(by omega)).toNat : Int) := by
  unfold bt
  rw [dif_pos (by rw [B_size]; omega)]
  have : (B l)[i.toNat]'(by rw [B_size]; omega) = l[i.toNat]'(by omega) := by simp [B, ByteArray.getElem_eq_getElem_data]
  rw [this]
theorem bt_B_at (l : List UInt8) (i : Nat) (h : i < l.length) : bt (B l) (i : Int) = ((l[i]).toNat : Int) := by
  rw [bt_B l _ (by omega) (by omega)]; simp
theorem wrap64_id {i : Int} (h0 : -9223372036854775808 ≤ i) (h1 : i ≤ 9223372036854775807) : wrap64 i = i := by unfold wrap64; omega
theorem wrap64_nat (i : Nat) (h : i < 9223372036854775807) : wrap64 ((i : Int) + 1) = ((i + 1 : Nat) : Int) := by rw [wrap64_id (by omega) (by omega)]; rfl
theorem Ev.round {α : Type} {g f : Nat → Option α} {r : α} (k : Ev f r) (h : ∀ k, g (k + 1) = f k) : Ev g r := Ev.step h k
theorem Ev.eq {α : Type} {g : Nat → Option α} {r : α} (r' : α) (h : Ev g r') (e : r' = r) : Ev g r := e ▸ h
theorem Ev.done {α : Type} {g : Nat → Option α} {r : α} (h : ∀ k, g (k + 1) = some r) : Ev g r := Ev.step h (Ev.now r)
theorem Ev.const {α : Type} {o : Option α} {r : α} (h : o = some r) : Ev (fun _ => o) r := ⟨0, fun _ _ => h⟩
def decN (n : Nat) : List UInt8 := if _h : n < 10 then [UInt8.ofNat (48 + n)] else decN (n / 10) ++ [UInt8.ofNat (48 + n % 10)]
termination_by n
theorem decN_lt (n : Nat) (h : n < 10) : decN n = [UInt8.ofNat (48 + n)] := by rw [decN, dif_pos h]
theorem decN_ge (n : Nat) (h : ¬ n < 10) : decN n = decN (n / 10) ++ [UInt8.ofNat (48 + n % 10)] := by rw [decN, dif_neg h]
theorem decN_digit (n : Nat) : ∀ b ∈ decN n, 48 ≤ b.toNat ∧ b.toNat ≤ 57 := by
  induction n using decN.induct with
  | case1 n h =>
    rw [decN_lt n h]
    intro b hb
    rw [List.mem_singleton] at hb
    subst hb
    have : (48 + n) % 256 = 48 + n := by omega
    simp [this]
    omega
  | case2 n h ih =>
    rw [decN_ge n h]
    intro b hb
    rcases List.mem_append.1 hb with hb | hb
    · exact ih b hb
    · rw [List.mem_singleton] at hb
      subst hb
      have : (48 + n % 10) % 256 = 48 + n % 10 := by omega
      simp [this]
      omega
theorem decN_ne (n : Nat) : decN n ≠ [] := by
  by_cases h : n < 10
  · rw [decN_lt n h]; simp
  · rw [decN_ge n h]; simp
theorem decN_length (n : Nat) (m : Nat) (h : n < 10 ^ (m + 1)) : (decN n).length ≤ m + 1 := by
  induction m generalizing n with
  | zero => rw [decN_lt n (by simpa using h)]; simp
  | succ m ih =>
    by_cases h10 : n < 10
    · rw [decN_lt n h10]; simp
    · rw [decN_ge n h10]
      have := ih (n / 10) (by rw [Nat.div_lt_iff_lt_mul (by omega)]; rw [Nat.pow_succ] at h; exact h)
      simp
      omega
end Go.Proofs.YtkhgeonlohafgaaGreatDoor.Core
namespace Go.Proofs.YtkhgeonlohafgaaGreatDoor.Core
open Go.RowKit Go.Proofs.YtkhgeonlohafgaaGreatDoorW.PrintWords
def leapI (y : Int) : Bool := decide (y % 4 = 0) && (decide (y % 100 ≠ 0) || decide (y % 400 = 0))
def daysI (y mo : Int) : Int := if mo = 2 ∧ leapI y = true then 29 else rd [0, 31, 28, 31, 30, 31, 30, 31, 31, 30, 31, 30, 31] mo
structure DateOk (y mo d : Int) : Prop where
  y0 : 1989 ≤ y
  y1 : y ≤ 2092
  m0 : 1 ≤ mo
  m1 : mo ≤ 12
  d0 : 1 ≤ d
  d1 : d ≤ daysI y mo
def jfI (mo : Int) : Int := (14 - mo) / 12
def aydI (mo d : Int) : Int := (979 * (mo + 12 * jfI mo) - 2919) / 32 + d - 1
def absD (y mo d : Int) : Int := 146097 * ((y - jfI mo + 292277022400) / 100) / 4 + 1461 * ((y - jfI mo + 292277022400) % 100) / 4 + aydI mo d
theorem u64_id {x : Int} (h0 : 0 ≤ x) (h1 : x < 18446744073709551616) : IntKind.u64.wrap x = x := by
  have : IntKind.u64.wrap x = x % 18446744073709551616 := rfl
  omega
theorem months {mo : Int} (h0 : 1 ≤ mo) (h1 : mo ≤ 12) : mo = 1 ∨ mo = 2 ∨ mo = 3 ∨ mo = 4 ∨ mo = 5 ∨ mo = 6 ∨ mo = 7 ∨ mo = 8 ∨ mo = 9 ∨ mo = 10 ∨ mo = 11 ∨ mo = 12 := by omega
theorem dateToAbs_eq (y mo d : Int) (y0 : 1989 ≤ y) (y1 : y ≤ 2092) (m0 : 1 ≤ mo) (m1 : mo ≤ 12) (d0 : 1 ≤ d) (d1 : d ≤ 32) : gotime_dateToAbsDays.f y mo d = some (absD y mo d) := by
  unfold gotime_dateToAbsDays.f absD aydI jfI
  rcases months m0 m1 with h | h | h | h | h | h | h | h | h | h | h | h <;> subst h <;>
    (first | rw [if_pos (by decide)] | rw [if_neg (by decide)]) <;>
    simp (disch := omega) only [u64_id, wrap64_id, Int.tdiv_eq_ediv_of_nonneg, Int.tmod_eq_emod_of_nonneg, Int.emod_eq_of_lt, Int.reduceSub, Int.reduceDiv, Int.reduceAdd, Int.reduceMul, Int.sub_zero] <;>
    exact congrArg some (by omega)
theorem or3 (n : Int) (h0 : 0 ≤ n) (h1 : n < 1000000) : Go.bits .or .u32 n 3 = n / 4 * 4 + 3 := by
  obtain ⟨m, rfl⟩ : ∃ m : Nat, n = m := ⟨n.toNat, by omega⟩
  have e := u32_or_nat m 3 (by omega) (by omega)
  rw [show ((3 : Nat) : Int) = 3 from rfl] at e
  rw [e]
  have e2 : m ||| 3 = m / 4 * 4 + 3 := by
    have h4 : 2 ^ 2 * (m / 4) + m % 4 = 2 ^ 2 * (m / 4) ||| m % 4 := Nat.two_pow_add_eq_or_of_lt (by omega) _
    have h5 : 2 ^ 2 * (m / 4) + 3 = 2 ^ 2 * (m / 4) ||| 3 := Nat.two_pow_add_eq_or_of_lt (by omega) _
    have hr : m % 4 ||| 3 = 3 := by
      have : m % 4 < 4 := Nat.mod_lt _ (by omega)
      rcases (by omega : m % 4 = 0 ∨ m % 4 = 1 ∨ m % 4 = 2 ∨ m % 4 = 3) with h | h | h | h <;> rw [h] <;> rfl
    have hm : m = 2 ^ 2 * (m / 4) + m % 4 := by omega
    calc m ||| 3 = (2 ^ 2 * (m / 4) ||| m % 4) ||| 3 := by rw [← h4, ← hm]
      _ = 2 ^ 2 * (m / 4) ||| (m % 4 ||| 3) := Nat.or_assoc _ _ _
      _ = m / 4 * 4 + 3 := by rw [hr, ← h5]; omega
  omega
theorem and16 (n : Int) (h0 : 0 ≤ n) (h1 : n < 4294967296) : Go.bits .and .u32 n 65535 = n % 65536 := by
  obtain ⟨m, rfl⟩ : ∃ m : Nat, n = m := ⟨n.toNat, by omega⟩
  have e := u32_and_nat m 65535 (by omega) (by omega)
  rw [show ((65535 : Nat) : Int) = 65535 from rfl] at e
  rw [e]
  have e2 : m &&& 65535 = m % 65536 := Nat.and_two_pow_sub_one_eq_mod m 16
  omega
theorem leap_spec (y : Int) : leapI y = true ↔ y % 4 = 0 ∧ (y % 100 ≠ 0 ∨ y % 400 = 0) := by
  unfold leapI
  simp
theorem daysI_cases (y mo : Int) (m0 : 1 ≤ mo) (m1 : mo ≤ 12) : daysI y mo ≤ 31 ∧ 28 ≤ daysI y mo ∧ (mo = 2 → daysI y mo = if leapI y = true then 29 else 28) ∧ (mo = 4 ∨ mo = 6 ∨ mo = 9 ∨ mo = 11 → daysI y mo = 30) ∧ (mo = 1 ∨ mo = 3 ∨ mo = 5 ∨ mo = 7 ∨ mo = 8 ∨ mo = 10 ∨ mo = 12 → daysI y mo = 31) := by
  unfold daysI
  rcases months m0 m1 with h | h | h | h | h | h | h | h | h | h | h | h <;> subst h <;> cases hl : leapI y <;> simp [rd]
theorem split_at (C cy ayd : Int) (hC : C = 2922770243 ∨ (C = 2922770244 ∧ cy ≤ 95)) (c0 : 0 ≤ cy) (c1 : cy ≤ 99) (a0 : 0 ≤ ayd) (a1 : ayd ≤ 365) (a2 : ayd = 365 → cy % 4 = 3) :
    gotime_absDays_split.f (146097 * C / 4 + 1461 * cy / 4 + ayd) = some (C, cy, ayd) := by
  unfold gotime_absDays_split.f bits_Mul32.f
  have e1 : IntKind.u64.wrap (IntKind.u64.wrap (4 * (146097 * C / 4 + 1461 * cy / 4 + ayd)) + 3) = 4 * (146097 * C / 4 + 1461 * cy / 4 + ayd) + 3 := by
    rw [u64_id (x := 4 * (146097 * C / 4 + 1461 * cy / 4 + ayd)) (by omega) (by omega), u64_id (by omega) (by omega)]
  rw [e1, Int.tdiv_eq_ediv_of_nonneg (by omega), Int.tmod_eq_emod_of_nonneg (by omega)]
  have e2 : (4 * (146097 * C / 4 + 1461 * cy / 4 + ayd) + 3) / 146097 = C := by rcases hC with h | ⟨h, h95⟩ <;> subst h <;> omega
  have e3 : (4 * (146097 * C / 4 + 1461 * cy / 4 + ayd) + 3) % 146097 / 4 * 4 + 3 = 1461 * cy - cy % 4 + 4 * ayd + 3 := by rcases hC with h | ⟨h, h95⟩ <;> subst h <;> omega
  have e4 : (4 * (146097 * C / 4 + 1461 * cy / 4 + ayd) + 3) % 146097 % 4294967296 = (4 * (146097 * C / 4 + 1461 * cy / 4 + ayd) + 3) % 146097 := by omega
  rw [e2, e4, or3 _ (by omega) (by omega), e3]
  have b1 : 0 ≤ 1461 * cy - cy % 4 + 4 * ayd + 3 := by omega
  have b2 : 1461 * cy - cy % 4 + 4 * ayd + 3 < 146200 := by omega
  rw [u64_id (x := 2939745) (by omega) (by omega), u64_id (x := 1461 * cy - cy % 4 + 4 * ayd + 3) b1 (by omega), u64_id (x := 2939745 * (1461 * cy - cy % 4 + 4 * ayd + 3)) (by omega) (by omega), u64_id (x := C) (by omega) (by omega)]
  simp only [Option.bind_some]
  obtain ⟨r, hr⟩ : ∃ r : Int, r = 4 * ayd + 3 - cy % 4 := ⟨_, rfl⟩
  have hr0 : 0 ≤ r := by omega
  have hr1 : r ≤ 1460 := by omega
  have e5 : 2939745 * (1461 * cy - cy % 4 + 4 * ayd + 3) = 4294967296 * cy + (149 * cy + 2939745 * r) := by subst hr; omega
  rw [e5]
  obtain ⟨X, hX⟩ : ∃ X : Int, X = 149 * cy + 2939745 * r := ⟨_, rfl⟩
  have hX0 : 0 ≤ X := by omega
  have hX1 : X < 4294967296 := by omega
  have e9 : X / 2939745 = r := by omega
  rw [← hX]
  clear e1 e2 e3 e4 e5 b1 b2 hX
  have e6 : (4294967296 * cy + X) / 4294967296 = cy := by omega
  have e7 : (4294967296 * cy + X) % 4294967296 = X := by omega
  rw [e6, e7, Int.emod_eq_of_lt (by omega) (by omega), wrap64_id (by omega) (by omega), Int.tdiv_eq_ediv_of_nonneg (by omega), e9]
  have e8 : r % 4294967296 / 4 = ayd := by omega
  rw [e8]
theorem jf_01 {mo : Int} (h0 : 1 ≤ mo) (h1 : mo ≤ 12) : 0 ≤ jfI mo ∧ jfI mo ≤ 1 := by unfold jfI; omega
theorem ayd_range {y mo d : Int} (h : DateOk y mo d) : 0 ≤ aydI mo d ∧ aydI mo d ≤ 365 ∧ (aydI mo d = 365 → (y - jfI mo + 292277022400) % 100 % 4 = 3) := by
  obtain ⟨y0, y1, m0, m1, d0, d1⟩ := h
  obtain ⟨q1, q2, q3, q4, q5⟩ := daysI_cases y mo m0 m1
  unfold aydI jfI
  rcases months m0 m1 with h | h | h | h | h | h | h | h | h | h | h | h
  · have := q5 (by omega); subst h; refine ⟨by omega, by omega, by omega⟩
  · have := q3 h
    subst h
    cases hl : leapI y with
    | true =>
      have hlp := (leap_spec y).1 hl
      rw [hl] at this
      simp at this
      refine ⟨by omega, by omega, by omega⟩
    | false =>
      rw [hl] at this
      simp at this
      refine ⟨by omega, by omega, by omega⟩
  · have := q5 (by omega); subst h; refine ⟨by omega, by omega, by omega⟩
  · have := q4 (by omega); subst h; refine ⟨by omega, by omega, by omega⟩
  · have := q5 (by omega); subst h; refine ⟨by omega, by omega, by omega⟩
  · have := q4 (by omega); subst h; refine ⟨by omega, by omega, by omega⟩
  · have := q5 (by omega); subst h; refine ⟨by omega, by omega, by omega⟩
  · have := q5 (by omega); subst h; refine ⟨by omega, by omega, by omega⟩
  · have := q4 (by omega); subst h; refine ⟨by omega, by omega, by omega⟩
  · have := q5 (by omega); subst h; refine ⟨by omega, by omega, by omega⟩
  · have := q4 (by omega); subst h; refine ⟨by omega, by omega, by omega⟩
  · have := q5 (by omega); subst h; refine ⟨by omega, by omega, by omega⟩
theorem split_date {y mo d : Int} (h : DateOk y mo d) : gotime_absDays_split.f (absD y mo d) = some ((y - jfI mo + 292277022400) / 100, (y - jfI mo + 292277022400) % 100, aydI mo d) := by
  obtain ⟨r1, r2, r3⟩ := ayd_range h
  have hj := jf_01 h.m0 h.m1
  have := h.y0
  have := h.y1
  exact split_at _ _ _ (by omega) (by omega) (by omega) r1 r2 r3
theorem aydSplit {y mo d : Int} (h : DateOk y mo d) : gotime_absYday_split.f (aydI mo d) = some (mo + 12 * jfI mo, d) ∧ gotime_absYday_janFeb.f (aydI mo d) = some (jfI mo) ∧ gotime_absMonth_month.f (mo + 12 * jfI mo) (jfI mo) = some mo := by
  obtain ⟨y0, y1, m0, m1, d0, d1⟩ := h
  obtain ⟨q1, q2, q3, q4, q5⟩ := daysI_cases y mo m0 m1
  have key : ∀ A a : Int, 0 ≤ A → A ≤ 366 → (2141 * A + 197913) / 65536 = a → 0 ≤ (2141 * A + 197913) % 65536 / 2141 → gotime_absYday_split.f A = some (a, 1 + (2141 * A + 197913) % 65536 / 2141) := by
    intro A a h0 h1 ha h2
    unfold gotime_absYday_split.f
    have e1 : ((2141 * (A % 4294967296)) % 4294967296 + 197913) % 4294967296 = 2141 * A + 197913 := by omega
    rw [e1, and16 _ (by omega) (by omega), Int.tdiv_eq_ediv_of_nonneg (by omega), ha]
    have e2 : (2141 * A + 197913) % 65536 / 2141 % 4294967296 = (2141 * A + 197913) % 65536 / 2141 := by omega
    rw [e2]
  have fin : ∀ (c : Int), aydI mo d = c + d - 1 → 0 ≤ c + d - 1 → c + d - 1 ≤ 366 → (2141 * (c + d - 1) + 197913) / 65536 = mo + 12 * jfI mo → (2141 * (c + d - 1) + 197913) % 65536 / 2141 = d - 1 →
      gotime_absYday_split.f (aydI mo d) = some (mo + 12 * jfI mo, d) := by
    intro c hc b0 b1 e1 e2
    rw [hc, key (c + d - 1) _ b0 b1 e1 (by omega), e2]
    congr 2
    omega
  have jf : ∀ (c : Int), aydI mo d = c + d - 1 → (c + d - 1 ≥ 306 ↔ jfI mo = 1) → (jfI mo = 0 ∨ jfI mo = 1) → gotime_absYday_janFeb.f (aydI mo d) = some (jfI mo) := by
    intro c hc hi h01
    rw [hc]
    unfold gotime_absYday_janFeb.f
    by_cases hg : c + d - 1 ≥ 306
    · rw [if_pos hg, hi.1 hg]
    · rw [if_neg hg]
      rcases h01 with h | h
      · rw [h]
      · exact absurd (hi.2 h) hg
  have mon : gotime_absMonth_month.f (mo + 12 * jfI mo) (jfI mo) = some mo := by
    have hj := jf_01 m0 m1
    unfold gotime_absMonth_month.f
    rw [wrap64_id (i := jfI mo * 12) (by omega) (by omega), wrap64_id (by omega) (by omega)]
    congr 1
    omega
  have all : ∀ (m : Int), mo = m → ∀ (c j n : Int), jfI m = j → (979 * (m + 12 * j) - 2919) / 32 = c → daysI y mo ≤ n → (0 ≤ c) → (j = 0 ∧ c + n ≤ 306 ∨ j = 1 ∧ 306 ≤ c ∧ c + n ≤ 367) →
      (∀ d : Int, 1 ≤ d → d ≤ n → (2141 * (c + d - 1) + 197913) / 65536 = m + 12 * j ∧ (2141 * (c + d - 1) + 197913) % 65536 / 2141 = d - 1) →
      gotime_absYday_split.f (aydI mo d) = some (mo + 12 * jfI mo, d) ∧ gotime_absYday_janFeb.f (aydI mo d) = some (jfI mo) ∧ gotime_absMonth_month.f (mo + 12 * jfI mo) (jfI mo) = some mo := by
    intro m hm c j n hj hc hn c0 hjn hd
    subst hm
    have ha : aydI mo d = c + d - 1 := by unfold aydI; rw [hj, hc]
    obtain ⟨g1, g2⟩ := hd d d0 (by omega)
    refine ⟨fin c ha (by omega) (by omega) (by rw [hj]; exact g1) g2, jf c ha (by rw [hj]; omega) (by rw [hj]; omega), mon⟩
  rcases months m0 m1 with h | h | h | h | h | h | h | h | h | h | h | h
  · exact all 1 h 306 1 31 rfl rfl (by have := q5 (by omega); omega) (by omega) (by omega) (fun d _ _ => by omega)
  · exact all 2 h 337 1 29 rfl rfl (by have := q3 h; split at this <;> omega) (by omega) (by omega) (fun d _ _ => by omega)
  · exact all 3 h 0 0 31 rfl rfl (by have := q5 (by omega); omega) (by omega) (by omega) (fun d _ _ => by omega)
  · exact all 4 h 31 0 30 rfl rfl (by have := q4 (by omega); omega) (by omega) (by omega) (fun d _ _ => by omega)
  · exact all 5 h 61 0 31 rfl rfl (by have := q5 (by omega); omega) (by omega) (by omega) (fun d _ _ => by omega)
  · exact all 6 h 92 0 30 rfl rfl (by have := q4 (by omega); omega) (by omega) (by omega) (fun d _ _ => by omega)
  · exact all 7 h 122 0 31 rfl rfl (by have := q5 (by omega); omega) (by omega) (by omega) (fun d _ _ => by omega)
  · exact all 8 h 153 0 31 rfl rfl (by have := q5 (by omega); omega) (by omega) (by omega) (fun d _ _ => by omega)
  · exact all 9 h 184 0 30 rfl rfl (by have := q4 (by omega); omega) (by omega) (by omega) (fun d _ _ => by omega)
  · exact all 10 h 214 0 31 rfl rfl (by have := q5 (by omega); omega) (by omega) (by omega) (fun d _ _ => by omega)
  · exact all 11 h 245 0 30 rfl rfl (by have := q4 (by omega); omega) (by omega) (by omega) (fun d _ _ => by omega)
  · exact all 12 h 275 0 31 rfl rfl (by have := q5 (by omega); omega) (by omega) (by omega) (fun d _ _ => by omega)
theorem centuryYear {y mo d : Int} (h : DateOk y mo d) : gotime_absCentury_year.f ((y - jfI mo + 292277022400) / 100) ((y - jfI mo + 292277022400) % 100) (jfI mo) = some y := by
  have hj := jf_01 h.m0 h.m1
  have := h.y0
  have := h.y1
  unfold gotime_absCentury_year.f
  have e : IntKind.u64.wrap (IntKind.u64.wrap ((y - jfI mo + 292277022400) / 100 * 100) - 292277022400) = (IntKind.u64.wrap ((y - jfI mo + 292277022400) / 100 * 100) - 292277022400) % 18446744073709551616 := rfl
  rw [e, u64_id (by omega) (by omega)]
  have e2 : ((y - jfI mo + 292277022400) / 100 * 100 - 292277022400) % 18446744073709551616 = (y - jfI mo + 292277022400) / 100 * 100 - 292277022400 := by omega
  rw [e2, wrap64_id (i := (y - jfI mo + 292277022400) / 100 * 100 - 292277022400) (by omega) (by omega), wrap64_id (i := _ + (y - jfI mo + 292277022400) % 100) (by omega) (by omega), wrap64_id (by omega) (by omega)]
  congr 1
  omega
end Go.Proofs.YtkhgeonlohafgaaGreatDoor.Core
namespace Go.Proofs.YtkhgeonlohafgaaGreatDoor.Core
open Go.RowKit
theorem no_mono : (bits BinOp.and IntKind.u64 0 9223372036854775808 != 0) = false := by kernel_rfl
theorem ret_i64 {a b : Int} (h : a = b) : Ending.returned (.int .i64 a) = .returned (.int .i64 b) := by rw [h]
theorem ret_u64 {a b : Int} (h : a = b) : Ending.returned (.int .u64 a) = .returned (.int .u64 b) := by rw [h]
theorem sec_any (g : Nat) (x : Int) (w : World) (h0 : w.cell? ⟨g, 0, none⟩ = some (.int .u64 0)) (h1 : w.cell? ⟨g, 1, none⟩ = some (.int .i64 x)) :
    Calls Tryz.prog 119 #[.pointer (some ⟨g, 0, none⟩)] w fun e w' => e = .returned (.int .i64 x) ∧ w = w' := by
  have hm := no_mono
  go_enter Tryz.func119, Tryz.ntmps119
  go_wp2
  go_ret
  exact ⟨rfl, rfl⟩
theorem unixSec_any (g : Nat) (x : Int) (w : World) (hx0 : 62700000000 ≤ x) (hx1 : x ≤ 66100000000) (h0 : w.cell? ⟨g, 0, none⟩ = some (.int .u64 0)) (h1 : w.cell? ⟨g, 1, none⟩ = some (.int .i64 x)) :
    Calls Tryz.prog 115 #[.pointer (some ⟨g, 0, none⟩)] w fun e w' => e = .returned (.int .i64 (x - 62135596800)) ∧ w = w' := by
  go_enter Tryz.func115, Tryz.ntmps115
  go_wp2_with (go_at_call 119; refine (sec_any g x _ h0 h1).mono ?_; rintro e w' ⟨rfl, rfl⟩)
  go_ret
  exact ⟨ret_i64 (by omega), rfl⟩
theorem stripMono_any (g : Nat) (w : World) (h0 : w.cell? ⟨g, 0, none⟩ = some (.int .u64 0)) :
    Calls Tryz.prog 100 #[.pointer (some ⟨g, 0, none⟩)] w fun e w' => e = .returned (.tuple #[]) ∧ w = w' := by
  have hm := no_mono
  go_enter Tryz.func100, Tryz.ntmps100
  go_wp2
  go_end0
  exact ⟨rfl, rfl⟩
def utcCells : Array Value := #[.bool true, .string ⟨#[85, 84, 67]⟩, .slice none 0 0, .slice none 0 0, .string ⟨#[]⟩, .int .i64 0, .int .i64 0, .pointer none]
def IsUtc (w : World) (b : Nat) : Prop := w.heap[b]? = some (.cells utcCells 127)
theorem IsUtc.cell {w : World} {b : Nat} (h : IsUtc w b) (j : Nat) : w.cell? ⟨b, j, none⟩ = utcCells[j]? := by
  unfold IsUtc at h; simp [World.cell?, h]
theorem utc_any (w : World) :
    Calls Tryz.prog 46 #[] w fun e w' => e = .returned (.pointer (some ⟨w.heap.size, 0, none⟩)) ∧ w.alloc (.cells utcCells 127) = w' := by
  go_enter Tryz.func46, Tryz.ntmps46
  go_wp2
  go_ret
  exact ⟨rfl, rfl⟩
theorem get_nil (w : World) :
    Calls Tryz.prog 101 #[.pointer none] w fun e w' => e = .returned (.pointer (some ⟨w.heap.size, 0, none⟩)) ∧ w.alloc (.cells utcCells 127) = w' := by
  go_enter Tryz.func101, Tryz.ntmps101
  go_wp2_with (go_at_call 46; refine (utc_any _).mono ?_; rintro e w' ⟨rfl, rfl⟩)
  go_ret
  exact ⟨rfl, rfl⟩
theorem get_some (b : Nat) (w : World) :
    Calls Tryz.prog 101 #[.pointer (some ⟨b, 0, none⟩)] w fun e w' => e = .returned (.pointer (some ⟨b, 0, none⟩)) ∧ w = w' := by
  go_enter Tryz.func101, Tryz.ntmps101
  go_wp2
  go_ret
  exact ⟨rfl, rfl⟩
theorem unixTime_any (s : Int) (w : World) (h0 : 500000000 ≤ s) (h1 : s ≤ 4000000000) :
    Calls Tryz.prog 71 #[.int .i64 s, .int .i32 0] w fun e w' => e = .returned (.agg #[.int .u64 0, .int .i64 (s + 62135596800), .pointer none]) ∧ Below w.heap.size w w' := by
  go_enter Tryz.func71, Tryz.ntmps71
  go_wp2
  exact bodyPost_ret (v := .agg #[.int .u64 0, .int .i64 (s + 62135596800), .pointer none]) (by simp [results, Tryz.results71, go_sem]) rfl ⟨rfl, (Below.refl _ _).alloc (Nat.le_refl _) _⟩
theorem setLoc_any (g b : Nat) (x : Int) (w : World) (hg : w.heap[g]? = some (.cells #[.int .u64 0, .int .i64 x, .pointer none] 63)) (hb : w.cell? ⟨b, 0, none⟩ = some (.bool true)) :
    Calls Tryz.prog 72 #[.pointer (some ⟨g, 0, none⟩), .pointer (some ⟨b, 0, none⟩)] w fun e w' => e = .returned (.tuple #[]) ∧ w.setCell ⟨g, 2, none⟩ (.pointer none) = w' := by
  have h0 : w.cell? ⟨g, 0, none⟩ = some (.int .u64 0) := by simp [World.cell?, hg]
  have h2 : w.cell? ⟨g, 2, none⟩ = some (.pointer none) := by simp [World.cell?, hg]
  have f2 : w.frozen? ⟨g, 2, none⟩ = false := by simp [World.frozen?, hg]
  clear hg
  go_enter Tryz.func72, Tryz.ntmps72
  go_wp2_with (go_at_call 100; refine (stripMono_any g _ h0).mono ?_; rintro e w' ⟨rfl, rfl⟩)
  go_end0
  exact ⟨rfl, rfl⟩
set_option maxRecDepth 100000 in
theorem lookup_any (b : Nat) (s : Int) (w : World) (hb : w.cell? ⟨b, 2, none⟩ = some (.slice none 0 0)) :
    Calls Tryz.prog 70 #[.pointer (some ⟨b, 0, none⟩), .int .i64 s] w fun e w' => e = .returned (.tuple #[.string ⟨#[85, 84, 67]⟩, .int .i64 0, .int .i64 (-9223372036854775808), .int .i64 9223372036854775807, .bool false]) ∧ w = w' := by
  go_enter Tryz.func70, Tryz.ntmps70
  go_wp2_with (go_at_call 101; refine (get_some b _).mono ?_; rintro e w' ⟨rfl, rfl⟩)
  refine bodyPost_ret (v := .tuple #[.string ⟨#[85, 84, 67]⟩, .int .i64 0, .int .i64 (-9223372036854775808), .int .i64 9223372036854775807, .bool false]) (by simp [results, Tryz.results70, go_sem]) rfl ⟨rfl, rfl⟩
theorem alloc_new (w : World) (o : Obj) : (w.alloc o).heap[w.heap.size]? = some o := heap_alloc_new w o
theorem isUtc_new (w : World) (n : Nat) (h : n = w.heap.size) : IsUtc (w.alloc (.cells utcCells 127)) n := by subst h; exact alloc_new _ _
theorem utc0 : utcCells[0]? = some (.bool true) := rfl
set_option maxRecDepth 100000 in
theorem absSec_any (x : Int) (w : World) (hx0 : 62700000000 ≤ x) (hx1 : x ≤ 66100000000) :
    Calls Tryz.prog 89 #[.agg #[.int .u64 0, .int .i64 x, .pointer none]] w fun e w' => e = .returned (.int .u64 (x + 9223371966606163200)) ∧ Below w.heap.size w w' := by
  have hu := utc0
  go_enter Tryz.func89, Tryz.ntmps89
  go_wp2_with (first | (go_at_call 101; refine (get_nil _).mono ?_; rintro e w' ⟨rfl, rfl⟩) | (go_at_call 115; refine (unixSec_any _ x _ hx0 hx1 (by go_simp) (by go_simp)).mono ?_; rintro e w' ⟨rfl, rfl⟩))
  go_ret
  exact ⟨ret_u64 (by first | omega | (simp; omega)), (((Below.refl _ _).alloc (Nat.le_refl _) _).alloc (by simp) _)⟩
theorem location_any (x : Int) (w : World) :
    Calls Tryz.prog 59 #[.agg #[.int .u64 0, .int .i64 x, .pointer none]] w fun e w' => ∃ b, e = .returned (.pointer (some ⟨b, 0, none⟩)) ∧ w.heap.size ≤ b ∧ IsUtc w' b ∧ Below w.heap.size w w' := by
  go_enter Tryz.func59, Tryz.ntmps59
  go_wp2_with (go_at_call 46; refine (utc_any _).mono ?_; rintro e w' ⟨rfl, rfl⟩)
  go_ret
  exact ⟨_, rfl, by simp, isUtc_new _ _ (by simp), (((Below.refl _ _).alloc (Nat.le_refl _) _).alloc (by simp) _)⟩
end Go.Proofs.YtkhgeonlohafgaaGreatDoor.Core
namespace Go.Proofs.YtkhgeonlohafgaaGreatDoor.Core
open Go.RowKit Go.Proofs.YtkhgeonlohafgaaGreatDoorW.PrintWords
def cumI (y mo : Int) : Int := rd [0, 0, 31, 59, 90, 120, 151, 181, 212, 243, 273, 304, 334] mo + (if leapI y = true ∧ 2 < mo then 1 else 0)
def dayN (y mo d : Int) : Int := (y - 1) * 365 + (y - 1) / 4 - (y - 1) / 100 + (y - 1) / 400 + d + cumI y mo
def wdI (y mo d : Int) : Int := dayN y mo d % 7
theorem absD_table : ∀ i : Fin 104, ∀ m : Fin 12, absD (1989 + (i.val : Int)) (m.val + 1) 1 = dayN (1989 + (i.val : Int)) (m.val + 1) 1 + 106751990354237 := by decide +kernel
theorem absD_dayN (y mo d : Int) (y0 : 1989 ≤ y) (y1 : y ≤ 2092) (m0 : 1 ≤ mo) (m1 : mo ≤ 12) : absD y mo d = dayN y mo d + 106751990354237 := by
  have h := absD_table ⟨(y - 1989).toNat, by omega⟩ ⟨(mo - 1).toNat, by omega⟩
  simp only at h
  rw [show (1989 : Int) + ((y - 1989).toNat : Int) = y by omega, show (((mo - 1).toNat : Int) + 1) = mo by omega] at h
  have e1 : absD y mo d = absD y mo 1 + (d - 1) := by unfold absD aydI; omega
  have e2 : dayN y mo d = dayN y mo 1 + (d - 1) := by unfold dayN; omega
  rw [e1, e2, h]
  omega
theorem cumI_range (y mo : Int) (m0 : 1 ≤ mo) (m1 : mo ≤ 12) : 0 ≤ cumI y mo ∧ cumI y mo + daysI y mo ≤ 366 := by
  rcases months m0 m1 with h | h | h | h | h | h | h | h | h | h | h | h <;> subst h <;> cases hl : leapI y <;> simp [cumI, daysI, hl, rd]
theorem absD_range {y mo d : Int} (h : DateOk y mo d) : 106751991080340 ≤ absD y mo d ∧ absD y mo d ≤ 106751991118400 := by
  have e := absD_dayN y mo d h.y0 h.y1 h.m0 h.m1
  obtain ⟨c0, c1⟩ := cumI_range y mo h.m0 h.m1
  have := h.y0
  have := h.y1
  have := h.d0
  have := h.d1
  unfold dayN at e
  omega
theorem weekday_date {y mo d : Int} (h : DateOk y mo d) : gotime_absDays_weekday.f (absD y mo d) = some (wdI y mo d) := by
  have hr := absD_range h
  have e := absD_dayN y mo d h.y0 h.y1 h.m0 h.m1
  unfold gotime_absDays_weekday.f wdI
  rw [u64_id (by omega) (by omega), Int.tmod_eq_emod_of_nonneg (by omega), wrap64_id (by omega) (by omega), e]
  congr 1
  omega
def extOf (y mo d h mi s : Int) : Int := absD y mo d * 86400 + (h * 3600 + mi * 60 + s) - 9223371966606163200
structure ClockOk (h mi s : Int) : Prop where
  h0 : 0 ≤ h
  h1 : h ≤ 23
  m0 : 0 ≤ mi
  m1 : mi ≤ 59
  s0 : 0 ≤ s
  s1 : s ≤ 59
theorem ext_range {y mo d h mi s : Int} (hd : DateOk y mo d) (hc : ClockOk h mi s) : 62700000000 ≤ extOf y mo d h mi s ∧ extOf y mo d h mi s ≤ 66100000000 := by
  have := absD_range hd
  obtain ⟨h0, h1, m0, m1, s0, s1⟩ := hc
  unfold extOf
  omega
theorem days_ext {y mo d h mi s : Int} (hd : DateOk y mo d) (hc : ClockOk h mi s) : gotime_absSeconds_days.f (extOf y mo d h mi s + 9223371966606163200) = some (absD y mo d) := by
  have := absD_range hd
  obtain ⟨h0, h1, m0, m1, s0, s1⟩ := hc
  unfold gotime_absSeconds_days.f extOf
  have e : absD y mo d * 86400 + (h * 3600 + mi * 60 + s) - 9223371966606163200 + 9223371966606163200 = absD y mo d * 86400 + (h * 3600 + mi * 60 + s) := by omega
  rw [e, Int.tdiv_eq_ediv_of_nonneg (by omega)]
  have e2 : (absD y mo d * 86400 + (h * 3600 + mi * 60 + s)) / 86400 = absD y mo d := by omega
  rw [e2, u64_id (by omega) (by omega)]
end Go.Proofs.YtkhgeonlohafgaaGreatDoor.Core
namespace Go.Proofs.YtkhgeonlohafgaaGreatDoor.Core
open Go.RowKit Go.Proofs.YtkhgeonlohafgaaGreatDoorW.PrintWords Go.Proofs.YtkhgeonlohafgaaGreatDoorW.PrintLast Go.Proofs.YtkhgeonlohafgaaGreatDoorW.PrintMore
attribute [local go_sem] max2_int min2_int max_two min_two max_three min_three max_four min_four   -- for this text's walks alone
set_option linter.unusedVariables false
set_option linter.unusedSimpArgs false
end Go.Proofs.YtkhgeonlohafgaaGreatDoor.Core
