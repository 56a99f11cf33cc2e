/- Contracts and plain lemmas of this seat (part 3), merged by wip/merge2.py; what is proved stands in the claim's last text. -/
import Derived.Test.YtemgofomhjabpaaGreatDoorCStr1
import Derived.Test.YtemgofomhjabpaaGreatDoorCStr2
namespace Go.Proofs.YtemgofomhjabpaaGreatDoor.Core
open Go.RowKit Go.Proofs.YtemgofomhjabpaaGreatDoorW.PrintWords Go.Proofs.YtemgofomhjabpaaGreatDoorW.PrintLast Go.Proofs.YtemgofomhjabpaaGreatDoorW.PrintMore
attribute [local go_sem] max2_int min2_int max_two min_two max_three min_three max_four min_four   -- for this text's walks alone
set_option linter.unusedVariables false
set_option linter.unusedSimpArgs false
noncomputable def laws_FnStepRange.j0 : Nat → Int → Int → Int → Int → Bool → Int → Int → Int → Int → Int → Int → Option (Bool)
  | 0, _, _, _, _, _, _, _, _, _, _, _ => none
  | k + 1, x0, x1, x2, x3, x50, x295000, x295001, x295002, x295003, x295004, x295005 => if x50 = true then (some true) else ((spec_Decimal.f k x1).bind fun t304 => (if t304.size + 1 ≤ 9223372036854775807 then ((spec_Decimal.f k x2).bind fun t305 => (if (t304 ++ (⟨#[45]⟩ : ByteArray)).size + t305.size ≤ 9223372036854775807 then (if ((t304 ++ (⟨#[45]⟩ : ByteArray)) ++ t305).size + 1 ≤ 9223372036854775807 then ((spec_Decimal.f k x3).bind fun t306 => (if (((t304 ++ (⟨#[45]⟩ : ByteArray)) ++ t305) ++ (⟨#[47]⟩ : ByteArray)).size + t306.size ≤ 9223372036854775807 then ((laws_stars.f k x0 ((((t304 ++ (⟨#[45]⟩ : ByteArray)) ++ t305) ++ (⟨#[47]⟩ : ByteArray)) ++ t306)).bind fun t307 => ((impl_Due.f t307 x295000 x295001 x295002 x295003 x295004 0).bind fun bt308 => ((laws_moment.f x295000 x295001 x295002 x295003 x295004 0).bind fun bt310 => ((laws_numbers.f k bt310.1 bt310.2.1 bt310.2.2.1 bt310.2.2.2.1 bt310.2.2.2.2.1 bt310.2.2.2.2.2).bind fun bt316 => (if 0 ≤ x0 then (if x0 < 6 then (if bt308.2 = true then (if (rd [bt316.1, bt316.2.1, bt316.2.2.1, bt316.2.2.2.1, bt316.2.2.2.2.1, bt316.2.2.2.2.2] x0) ≥ x1 then (if (rd [bt316.1, bt316.2.1, bt316.2.2.1, bt316.2.2.2.1, bt316.2.2.2.2.1, bt316.2.2.2.2.2] x0) ≤ x2 then (if x3 = 0 then (none) else (if (Int.tmod (wrap64 ((rd [bt316.1, bt316.2.1, bt316.2.2.1, bt316.2.2.2.1, bt316.2.2.2.2.1, bt316.2.2.2.2.2] x0) - x1)) x3) = 0 then (if x0 = 1 then (if x0 ≤ 2 then (some (bt308.1 == true)) else (some (bt308.1 == (x295003 == 0)))) else (if x295004 = 0 then (if x0 ≤ 2 then (some (bt308.1 == true)) else (some (bt308.1 == (x295003 == 0)))) else (some (bt308.1 == false)))) else (some (bt308.1 == false)))) else (some (bt308.1 == false))) else (some (bt308.1 == false))) else (some false)) else (none)) else (none)))))) else (none))) else (none)) else (none))) else (none)))
noncomputable def laws_FnStepRange.f (k : Nat) (a0 : Int) (a1 : Int) (a2 : Int) (a3 : Int) (a4_0 : Int) (a4_1 : Int) (a4_2 : Int) (a4_3 : Int) (a4_4 : Int) (a4_5 : Int) : Option (Bool) := if a0 < 1 then (laws_FnStepRange.j0 k a0 a1 a2 a3 true a4_0 a4_1 a4_2 a4_3 a4_4 a4_5) else (if a0 > 5 then (laws_FnStepRange.j0 k a0 a1 a2 a3 true a4_0 a4_1 a4_2 a4_3 a4_4 a4_5) else ((spec_Low.f a0).bind fun t295 => (if a1 < t295 then (laws_FnStepRange.j0 k a0 a1 a2 a3 true a4_0 a4_1 a4_2 a4_3 a4_4 a4_5) else ((spec_High.f a0).bind fun t296 => (if a2 > t296 then (laws_FnStepRange.j0 k a0 a1 a2 a3 true a4_0 a4_1 a4_2 a4_3 a4_4 a4_5) else (if a1 ≥ a2 then (laws_FnStepRange.j0 k a0 a1 a2 a3 true a4_0 a4_1 a4_2 a4_3 a4_4 a4_5) else (if a3 < 2 then (laws_FnStepRange.j0 k a0 a1 a2 a3 true a4_0 a4_1 a4_2 a4_3 a4_4 a4_5) else (if a3 > 30 then (laws_FnStepRange.j0 k a0 a1 a2 a3 true a4_0 a4_1 a4_2 a4_3 a4_4 a4_5) else ((laws_moment.f a4_0 a4_1 a4_2 a4_3 a4_4 a4_5).bind fun bt297 => ((spec_MomentGood.f bt297.1 bt297.2.1 bt297.2.2.1 bt297.2.2.2.1 bt297.2.2.2.2.1 bt297.2.2.2.2.2).bind fun t303 => (laws_FnStepRange.j0 k a0 a1 a2 a3 (!t303) a4_0 a4_1 a4_2 a4_3 a4_4 a4_5)))))))))))
def laws_FnStepRange.T4 : Bool × List (List Nat × List Nat) := (true, [([], []), ([], []), ([1], [1]), ([2], [2]), ([], []), ([4, 2], [4]), ([3, 5], [3, 5]), ([6], [6]), ([], []), ([8, 5], [8]), ([7, 9], [7, 9]), ([0, 10, 9], [0, 10]), ([], []), ([11, 12, 11], [11, 12]), ([13], [13]), ([14], [14]), ([14], [14]), ([15, 13, 0, 1, 2, 3, 4, 5, 6, 7, 8, 9, 10, 11, 12, 13, 14, 15], [15]), ([16, 17, 0, 1, 2, 3, 4, 5, 6, 7, 8, 9, 10, 11, 12, 13, 14, 15, 16, 17], [16])])
def laws_FnStepRange.B4 : List Nat := [0, 0, 2, 6, 0, 22, 62, 126, 0, 310, 1022, 2047, 0, 8191, 16383, 32767, 32767, 65535, 262143]
theorem laws_FnStepRange.tab4 : rtab .any (opsOf Tryz.f8 4) = laws_FnStepRange.T4 := by kernel_rfl
theorem laws_FnStepRange.bits4 : waitsOk laws_FnStepRange.T4.2 laws_FnStepRange.B4 = true := by kernel_rfl
set_option maxHeartbeats 8000000 in
set_option maxRecDepth 100000 in
theorem laws_FnStepRange.calls (k : Nat) (a0 : Int) (a1 : Int) (a2 : Int) (a3 : Int) (a4_0 : Int) (a4_1 : Int) (a4_2 : Int) (a4_3 : Int) (a4_4 : Int) (a4_5 : Int) (r : Bool) (w : World) (h : laws_FnStepRange.f k a0 a1 a2 a3 a4_0 a4_1 a4_2 a4_3 a4_4 a4_5 = some r) :
    Calls Tryz.prog 8 #[.int .i64 a0, .int .i64 a1, .int .i64 a2, .int .i64 a3, .agg #[.int .i64 a4_0, .int .i64 a4_1, .int .i64 a4_2, .int .i64 a4_3, .int .i64 a4_4, .int .i64 a4_5]] w fun e w' => e = .returned (.bool r) ∧ Below w.heap.size w w' := by
  have hu26 := Tryz.underlying26
  have HB := Aside0.mk (Below.refl w.heap.size w)
  have H : (if a0 < 1 then (laws_FnStepRange.j0 k a0 a1 a2 a3 true a4_0 a4_1 a4_2 a4_3 a4_4 a4_5) else (if a0 > 5 then (laws_FnStepRange.j0 k a0 a1 a2 a3 true a4_0 a4_1 a4_2 a4_3 a4_4 a4_5) else ((spec_Low.f a0).bind fun t295 => (if a1 < t295 then (laws_FnStepRange.j0 k a0 a1 a2 a3 true a4_0 a4_1 a4_2 a4_3 a4_4 a4_5) else ((spec_High.f a0).bind fun t296 => (if a2 > t296 then (laws_FnStepRange.j0 k a0 a1 a2 a3 true a4_0 a4_1 a4_2 a4_3 a4_4 a4_5) else (if a1 ≥ a2 then (laws_FnStepRange.j0 k a0 a1 a2 a3 true a4_0 a4_1 a4_2 a4_3 a4_4 a4_5) else (if a3 < 2 then (laws_FnStepRange.j0 k a0 a1 a2 a3 true a4_0 a4_1 a4_2 a4_3 a4_4 a4_5) else (if a3 > 30 then (laws_FnStepRange.j0 k a0 a1 a2 a3 true a4_0 a4_1 a4_2 a4_3 a4_4 a4_5) else ((laws_moment.f a4_0 a4_1 a4_2 a4_3 a4_4 a4_5).bind fun bt297 => ((spec_MomentGood.f bt297.1 bt297.2.1 bt297.2.2.1 bt297.2.2.2.1 bt297.2.2.2.2.1 bt297.2.2.2.2.2).bind fun t303 => (laws_FnStepRange.j0 k a0 a1 a2 a3 (!t303) a4_0 a4_1 a4_2 a4_3 a4_4 a4_5)))))))))))) = some r := h
  clear h
  have HC6 := Aside0.mk H
  clear H
  go_enter Tryz.func8, Tryz.ntmps8
  go_upto_region 1 with (first | ((with_reducible refine gate_dst (N := 9) rfl ?_); refine box_event ?hg (N := 9) ?hd (cs := #[.int .i64 a4_0, .int .i64 a4_1, .int .i64 a4_2, .int .i64 a4_3, .int .i64 a4_4, .int .i64 a4_5]) (t := 26) ?hr ?_; (case hd => rfl); (case hg => rfl); (case hr => first | (go_simp; done) | (go_simp; rfl)); intro gb294 hg w7 hbox hb; have n0_ := Aside0.mk (below_step (by repeat (first | (with_reducible first | exact HB.out | apply below_alloc | apply pw_below_drewN | apply below_drew1) | exact HB.out)) hb); have n1_ := Aside0.mk (hbox); have n2_ := Aside0.mk ((by rw [hg]; exact (below_size (by repeat (first | (with_reducible first | exact HB.out | apply below_alloc | apply pw_below_drewN | apply below_drew1) | exact HB.out))) : w.heap.size ≤ gb294)); have n3_ := Aside0.mk ((by rw [hg]; exact (below_size (by repeat (first | (with_reducible first | exact HB.out | apply below_alloc | apply pw_below_drewN | apply below_drew1) | exact HB.out))) : w.heap.size ≤ gb294)); clear HB; have HB := n0_; have BK294 := n1_; have GW294 := n2_; have GE294 := n3_; clear n0_ n1_ n2_ n3_; clear hb hbox hg))
  (try simp only [Act.put, List.setIfInBounds_toArray, List.set_cons_zero, List.set_cons_succ])
  go_cut [50] (fun v50 wc => ∃ (kq : Nat) (x50_5 : Bool), v50 = .bool x50_5 ∧ Aside0 (laws_FnStepRange.j0 kq a0 a1 a2 a3 x50_5 a4_0 a4_1 a4_2 a4_3 a4_4 a4_5 = some r) ∧ Aside0 (kq ≤ k) ∧ Aside0 (wc.heap[gb294]? = some (.cells #[.int .i64 a4_0, .int .i64 a4_1, .int .i64 a4_2, .int .i64 a4_3, .int .i64 a4_4, .int .i64 a4_5] 26 (0, 0))) ∧ Aside0 (Below w.heap.size w wc))
  case first =>
    have H := HC6.out
    clear HC6
    by_cases c8 : a0 < 1
    · rw [if_pos c8] at H
      have c8b0 : decide (a0 < 1) = true := decide_eq_true c8
      clear c8
      (first | rw [c8b0] | (simp only [i64_w, i32_w]; rw [c8b0]) | skip)
      have H' := Aside0.mk H
      clear H
      go_wp2
      go_meet
      case rel => exact ⟨_, (true), (by first | rfl | (simp; done) | (simp [*]; done)), H', ⟨by first | omega | exact Nat.le_refl _⟩, ⟨by (with_reducible repeat (first | refine blk_drewN ?_ _ | refine blk_drew ?_ | refine blk_alloc ?_ _)); exact BK294.out⟩, ⟨by repeat (first | (with_reducible first | exact HB.out | apply below_alloc | apply pw_below_drewN | apply below_drew1 | refine below_set ?_ GE294.out) | exact HB.out)⟩⟩
    · rw [if_neg c8] at H
      have c8b0 : decide (a0 < 1) = false := decide_eq_false c8
      clear c8
      (first | rw [c8b0] | (simp only [i64_w, i32_w]; rw [c8b0]) | skip)
      by_cases c9 : a0 > 5
      · rw [if_pos c9] at H
        have c9b0 : decide (5 < a0) = true := decide_eq_true c9
        clear c9
        have H' := Aside0.mk H
        clear H
        go_wp2
        go_meet
        case rel => exact ⟨_, (true), (by first | rfl | (simp; done) | (simp [*]; done)), H', ⟨by first | omega | exact Nat.le_refl _⟩, ⟨by (with_reducible repeat (first | refine blk_drewN ?_ _ | refine blk_drew ?_ | refine blk_alloc ?_ _)); exact BK294.out⟩, ⟨by repeat (first | (with_reducible first | exact HB.out | apply below_alloc | apply pw_below_drewN | apply below_drew1 | refine below_set ?_ GE294.out) | exact HB.out)⟩⟩
      · rw [if_neg c9] at H
        have c9b0 : decide (5 < a0) = false := decide_eq_false c9
        clear c9
        replace H := Option.bind_eq_some_iff.mp H
        obtain ⟨t295, A100, H⟩ := H
        replace H : (if a1 < t295 then (laws_FnStepRange.j0 k a0 a1 a2 a3 true a4_0 a4_1 a4_2 a4_3 a4_4 a4_5) else ((spec_High.f a0).bind fun t296 => (if a2 > t296 then (laws_FnStepRange.j0 k a0 a1 a2 a3 true a4_0 a4_1 a4_2 a4_3 a4_4 a4_5) else (if a1 ≥ a2 then (laws_FnStepRange.j0 k a0 a1 a2 a3 true a4_0 a4_1 a4_2 a4_3 a4_4 a4_5) else (if a3 < 2 then (laws_FnStepRange.j0 k a0 a1 a2 a3 true a4_0 a4_1 a4_2 a4_3 a4_4 a4_5) else (if a3 > 30 then (laws_FnStepRange.j0 k a0 a1 a2 a3 true a4_0 a4_1 a4_2 a4_3 a4_4 a4_5) else ((laws_moment.f a4_0 a4_1 a4_2 a4_3 a4_4 a4_5).bind fun bt297 => ((spec_MomentGood.f bt297.1 bt297.2.1 bt297.2.2.1 bt297.2.2.2.1 bt297.2.2.2.2.1 bt297.2.2.2.2.2).bind fun t303 => (laws_FnStepRange.j0 k a0 a1 a2 a3 (!t303) a4_0 a4_1 a4_2 a4_3 a4_4 a4_5))))))))) = some r := H
        have A10 := Aside0.mk A100
        clear A100
        by_cases c11 : a1 < t295
        · rw [if_pos c11] at H
          have c11b0 : decide (a1 < t295) = true := decide_eq_true c11
          clear c11
          have H' := Aside0.mk H
          clear H
          go_wp2_with (first | (go_at_call 20; (with_reducible refine (spec_Low.calls a0 t295 _ A10.out).mono ?_); rintro e w' ⟨rfl, ⟨nd, rfl⟩⟩))
          go_meet
          case rel => exact ⟨_, (true), (by first | rfl | (simp; done) | (simp [*]; done)), H', ⟨by first | omega | exact Nat.le_refl _⟩, ⟨by (with_reducible repeat (first | refine blk_drewN ?_ _ | refine blk_drew ?_ | refine blk_alloc ?_ _)); exact BK294.out⟩, ⟨by repeat (first | (with_reducible first | exact HB.out | apply below_alloc | apply pw_below_drewN | apply below_drew1 | refine below_set ?_ GE294.out) | exact HB.out)⟩⟩
        · rw [if_neg c11] at H
          have c11b0 : decide (a1 < t295) = false := decide_eq_false c11
          clear c11
          replace H := Option.bind_eq_some_iff.mp H
          obtain ⟨t296, A120, H⟩ := H
          replace H : (if a2 > t296 then (laws_FnStepRange.j0 k a0 a1 a2 a3 true a4_0 a4_1 a4_2 a4_3 a4_4 a4_5) else (if a1 ≥ a2 then (laws_FnStepRange.j0 k a0 a1 a2 a3 true a4_0 a4_1 a4_2 a4_3 a4_4 a4_5) else (if a3 < 2 then (laws_FnStepRange.j0 k a0 a1 a2 a3 true a4_0 a4_1 a4_2 a4_3 a4_4 a4_5) else (if a3 > 30 then (laws_FnStepRange.j0 k a0 a1 a2 a3 true a4_0 a4_1 a4_2 a4_3 a4_4 a4_5) else ((laws_moment.f a4_0 a4_1 a4_2 a4_3 a4_4 a4_5).bind fun bt297 => ((spec_MomentGood.f bt297.1 bt297.2.1 bt297.2.2.1 bt297.2.2.2.1 bt297.2.2.2.2.1 bt297.2.2.2.2.2).bind fun t303 => (laws_FnStepRange.j0 k a0 a1 a2 a3 (!t303) a4_0 a4_1 a4_2 a4_3 a4_4 a4_5))))))) = some r := H
          have A12 := Aside0.mk A120
          clear A120
          by_cases c13 : a2 > t296
          · rw [if_pos c13] at H
            have c13b0 : decide (t296 < a2) = true := decide_eq_true c13
            clear c13
            have H' := Aside0.mk H
            clear H
            go_wp2_with (first | (go_at_call 20; (with_reducible refine (spec_Low.calls a0 t295 _ A10.out).mono ?_); rintro e w' ⟨rfl, ⟨nd, rfl⟩⟩) | (go_at_call 21; (with_reducible refine (spec_High.calls a0 t296 _ A12.out).mono ?_); rintro e w' ⟨rfl, ⟨nd, rfl⟩⟩))
            go_meet
            case rel => exact ⟨_, (true), (by first | rfl | (simp; done) | (simp [*]; done)), H', ⟨by first | omega | exact Nat.le_refl _⟩, ⟨by (with_reducible repeat (first | refine blk_drewN ?_ _ | refine blk_drew ?_ | refine blk_alloc ?_ _)); exact BK294.out⟩, ⟨by repeat (first | (with_reducible first | exact HB.out | apply below_alloc | apply pw_below_drewN | apply below_drew1 | refine below_set ?_ GE294.out) | exact HB.out)⟩⟩
          · rw [if_neg c13] at H
            have c13b0 : decide (t296 < a2) = false := decide_eq_false c13
            clear c13
            by_cases c14 : a1 ≥ a2
            · rw [if_pos c14] at H
              have c14b0 : decide (a2 ≤ a1) = true := decide_eq_true c14
              clear c14
              have H' := Aside0.mk H
              clear H
              go_wp2_with (first | (go_at_call 20; (with_reducible refine (spec_Low.calls a0 t295 _ A10.out).mono ?_); rintro e w' ⟨rfl, ⟨nd, rfl⟩⟩) | (go_at_call 21; (with_reducible refine (spec_High.calls a0 t296 _ A12.out).mono ?_); rintro e w' ⟨rfl, ⟨nd, rfl⟩⟩))
              go_meet
              case rel => exact ⟨_, (true), (by first | rfl | (simp; done) | (simp [*]; done)), H', ⟨by first | omega | exact Nat.le_refl _⟩, ⟨by (with_reducible repeat (first | refine blk_drewN ?_ _ | refine blk_drew ?_ | refine blk_alloc ?_ _)); exact BK294.out⟩, ⟨by repeat (first | (with_reducible first | exact HB.out | apply below_alloc | apply pw_below_drewN | apply below_drew1 | refine below_set ?_ GE294.out) | exact HB.out)⟩⟩
            · rw [if_neg c14] at H
              have c14b0 : decide (a2 ≤ a1) = false := decide_eq_false c14
              clear c14
              by_cases c15 : a3 < 2
              · rw [if_pos c15] at H
                have c15b0 : decide (a3 < 2) = true := decide_eq_true c15
                clear c15
                have H' := Aside0.mk H
                clear H
                go_wp2_with (first | (go_at_call 20; (with_reducible refine (spec_Low.calls a0 t295 _ A10.out).mono ?_); rintro e w' ⟨rfl, ⟨nd, rfl⟩⟩) | (go_at_call 21; (with_reducible refine (spec_High.calls a0 t296 _ A12.out).mono ?_); rintro e w' ⟨rfl, ⟨nd, rfl⟩⟩))
                go_meet
                case rel => exact ⟨_, (true), (by first | rfl | (simp; done) | (simp [*]; done)), H', ⟨by first | omega | exact Nat.le_refl _⟩, ⟨by (with_reducible repeat (first | refine blk_drewN ?_ _ | refine blk_drew ?_ | refine blk_alloc ?_ _)); exact BK294.out⟩, ⟨by repeat (first | (with_reducible first | exact HB.out | apply below_alloc | apply pw_below_drewN | apply below_drew1 | refine below_set ?_ GE294.out) | exact HB.out)⟩⟩
              · rw [if_neg c15] at H
                have c15b0 : decide (a3 < 2) = false := decide_eq_false c15
                clear c15
                by_cases c16 : a3 > 30
                · rw [if_pos c16] at H
                  have c16b0 : decide (30 < a3) = true := decide_eq_true c16
                  clear c16
                  have H' := Aside0.mk H
                  clear H
                  go_wp2_with (first | (go_at_call 20; (with_reducible refine (spec_Low.calls a0 t295 _ A10.out).mono ?_); rintro e w' ⟨rfl, ⟨nd, rfl⟩⟩) | (go_at_call 21; (with_reducible refine (spec_High.calls a0 t296 _ A12.out).mono ?_); rintro e w' ⟨rfl, ⟨nd, rfl⟩⟩))
                  go_meet
                  case rel => exact ⟨_, (true), (by first | rfl | (simp; done) | (simp [*]; done)), H', ⟨by first | omega | exact Nat.le_refl _⟩, ⟨by (with_reducible repeat (first | refine blk_drewN ?_ _ | refine blk_drew ?_ | refine blk_alloc ?_ _)); exact BK294.out⟩, ⟨by repeat (first | (with_reducible first | exact HB.out | apply below_alloc | apply pw_below_drewN | apply below_drew1 | refine below_set ?_ GE294.out) | exact HB.out)⟩⟩
                · rw [if_neg c16] at H
                  have c16b0 : decide (30 < a3) = false := decide_eq_false c16
                  clear c16
                  replace H := Option.bind_eq_some_iff.mp H
                  obtain ⟨⟨t297, t298, t299, t300, t301, t302⟩, A170, H⟩ := H
                  replace H : ((spec_MomentGood.f t297 t298 t299 t300 t301 t302).bind fun t303 => (laws_FnStepRange.j0 k a0 a1 a2 a3 (!t303) a4_0 a4_1 a4_2 a4_3 a4_4 a4_5)) = some r := H
                  have A17 := Aside0.mk A170
                  clear A170
                  replace H := Option.bind_eq_some_iff.mp H
                  obtain ⟨t303, A180, H⟩ := H
                  replace H : (laws_FnStepRange.j0 k a0 a1 a2 a3 (!t303) a4_0 a4_1 a4_2 a4_3 a4_4 a4_5) = some r := H
                  have A18 := Aside0.mk A180
                  clear A180
                  have H' := Aside0.mk H
                  clear H
                  go_wp2_with (first | (go_at_call 20; (with_reducible refine (spec_Low.calls a0 t295 _ A10.out).mono ?_); rintro e w' ⟨rfl, ⟨nd, rfl⟩⟩) | (go_at_call 21; (with_reducible refine (spec_High.calls a0 t296 _ A12.out).mono ?_); rintro e w' ⟨rfl, ⟨nd, rfl⟩⟩; have hcz19_0 : w7.cell? ⟨gb294, 0, none⟩ = some (.int .i64 a4_0) := (blk_cell BK294.out 0).trans rfl; have hcz19_1 : w7.cell? ⟨gb294, 1, none⟩ = some (.int .i64 a4_1) := (blk_cell BK294.out 1).trans rfl; have hcz19_2 : w7.cell? ⟨gb294, 2, none⟩ = some (.int .i64 a4_2) := (blk_cell BK294.out 2).trans rfl; have hcz19_3 : w7.cell? ⟨gb294, 3, none⟩ = some (.int .i64 a4_3) := (blk_cell BK294.out 3).trans rfl; have hcz19_4 : w7.cell? ⟨gb294, 4, none⟩ = some (.int .i64 a4_4) := (blk_cell BK294.out 4).trans rfl; have hcz19_5 : w7.cell? ⟨gb294, 5, none⟩ = some (.int .i64 a4_5) := (blk_cell BK294.out 5).trans rfl; have hfz19_0 := blk_frozen BK294.out 0; have hfz19_1 := blk_frozen BK294.out 1; have hfz19_2 := blk_frozen BK294.out 2; have hfz19_3 := blk_frozen BK294.out 3; have hfz19_4 := blk_frozen BK294.out 4; have hfz19_5 := blk_frozen BK294.out 5) | (go_at_call 19; (with_reducible refine (laws_moment.calls a4_0 a4_1 a4_2 a4_3 a4_4 a4_5 t297 t298 t299 t300 t301 t302 _ A17.out).mono ?_); rintro e w20 ⟨rfl, hb⟩; have n0_ := Aside0.mk (blk_below (g := gb294) (o := .cells #[.int .i64 a4_0, .int .i64 a4_1, .int .i64 a4_2, .int .i64 a4_3, .int .i64 a4_4, .int .i64 a4_5] 26 (0, 0)) (by (with_reducible repeat (first | refine blk_drewN ?_ _ | refine blk_drew ?_ | refine blk_alloc ?_ _)); exact BK294.out) hb); have n1_ := Aside0.mk (below_step (by repeat (first | (with_reducible first | exact HB.out | apply below_alloc | apply pw_below_drewN | apply below_drew1 | refine below_set ?_ GE294.out) | exact HB.out)) hb); clear BK294; clear HB; have BK294 := n0_; have HB := n1_; clear n0_ n1_; (try clear hb); (try clear hb2); (try clear hk); (try clear hi)) | (go_at_call 22; (with_reducible refine (spec_MomentGood.calls t297 t298 t299 t300 t301 t302 t303 _ A18.out).mono ?_); rintro e w21 ⟨rfl, hb⟩; have n0_ := Aside0.mk (blk_below (g := gb294) (o := .cells #[.int .i64 a4_0, .int .i64 a4_1, .int .i64 a4_2, .int .i64 a4_3, .int .i64 a4_4, .int .i64 a4_5] 26 (0, 0)) (by (with_reducible repeat (first | refine blk_drewN ?_ _ | refine blk_drew ?_ | refine blk_alloc ?_ _)); exact BK294.out) hb); have n1_ := Aside0.mk (below_step (by repeat (first | (with_reducible first | exact HB.out | apply below_alloc | apply pw_below_drewN | apply below_drew1 | refine below_set ?_ GE294.out) | exact HB.out)) hb); clear BK294; clear HB; have BK294 := n0_; have HB := n1_; clear n0_ n1_; (try clear hb); (try clear hb2); (try clear hk); (try clear hi)))
                  go_meet
                  case rel => exact ⟨_, (!t303), (by first | rfl | (simp; done) | (simp [*]; done)), H', ⟨by first | omega | exact Nat.le_refl _⟩, ⟨by (with_reducible repeat (first | refine blk_drewN ?_ _ | refine blk_drew ?_ | refine blk_alloc ?_ _)); exact BK294.out⟩, ⟨by repeat (first | (with_reducible first | exact HB.out | apply below_alloc | apply pw_below_drewN | apply below_drew1 | refine below_set ?_ GE294.out) | exact HB.out)⟩⟩
  case rest =>
    clear HC6
    try clear c1
    try clear p2
    try clear c8
    try clear c8b0
    try clear c9
    try clear c9b0
    try clear c11
    try clear c11b0
    try clear c13
    try clear c13b0
    try clear c14
    try clear c14b0
    try clear c15
    try clear c15b0
    try clear c16
    try clear c16b0
    try clear hcz19_0
    try clear hcz19_1
    try clear hcz19_2
    try clear hcz19_3
    try clear hcz19_4
    try clear hcz19_5
    try clear hfz19_0
    try clear hfz19_1
    try clear hfz19_2
    try clear hfz19_3
    try clear hfz19_4
    try clear hfz19_5
    obtain ⟨kq, x50_5, rfl, HA, HJ5, BK294, HB⟩ := hcut
    cases kq with
    | zero => exact absurd HA.out (by simp [laws_FnStepRange.j0])
    | succ kj5 =>
      have H := HA.out
      clear HA
      simp only [laws_FnStepRange.j0] at H
      by_cases c22 : x50_5 = true
      · subst c22
        have H1 : (some true) = some r := by rw [if_pos rfl] at H; exact H
        clear H
        have H := H1
        clear H1
        obtain rfl := Option.some.inj H
        go_wp2
        go_ret
        exact ⟨by first | rfl | (simp [errW_none, errW_some] <;> rfl) | (simp [*, errW_none, errW_some] <;> rfl), by repeat (first | (with_reducible first | exact HB.out | apply below_alloc | apply pw_below_drewN | apply below_drew1 | refine below_set ?_ GE294.out) | exact HB.out)⟩
      · replace c22 := Bool.eq_false_iff.mpr c22
        subst c22
        have H1 : ((spec_Decimal.f kj5 a1).bind fun t304 => (if t304.size + 1 ≤ 9223372036854775807 then ((spec_Decimal.f kj5 a2).bind fun t305 => (if (t304 ++ (⟨#[45]⟩ : ByteArray)).size + t305.size ≤ 9223372036854775807 then (if ((t304 ++ (⟨#[45]⟩ : ByteArray)) ++ t305).size + 1 ≤ 9223372036854775807 then ((spec_Decimal.f kj5 a3).bind fun t306 => (if (((t304 ++ (⟨#[45]⟩ : ByteArray)) ++ t305) ++ (⟨#[47]⟩ : ByteArray)).size + t306.size ≤ 9223372036854775807 then ((laws_stars.f kj5 a0 ((((t304 ++ (⟨#[45]⟩ : ByteArray)) ++ t305) ++ (⟨#[47]⟩ : ByteArray)) ++ t306)).bind fun t307 => ((impl_Due.f t307 a4_0 a4_1 a4_2 a4_3 a4_4 0).bind fun bt308 => ((laws_moment.f a4_0 a4_1 a4_2 a4_3 a4_4 0).bind fun bt310 => ((laws_numbers.f kj5 bt310.1 bt310.2.1 bt310.2.2.1 bt310.2.2.2.1 bt310.2.2.2.2.1 bt310.2.2.2.2.2).bind fun bt316 => (if 0 ≤ a0 then (if a0 < 6 then (if bt308.2 = true then (if (rd [bt316.1, bt316.2.1, bt316.2.2.1, bt316.2.2.2.1, bt316.2.2.2.2.1, bt316.2.2.2.2.2] a0) ≥ a1 then (if (rd [bt316.1, bt316.2.1, bt316.2.2.1, bt316.2.2.2.1, bt316.2.2.2.2.1, bt316.2.2.2.2.2] a0) ≤ a2 then (if a3 = 0 then (none) else (if (Int.tmod (wrap64 ((rd [bt316.1, bt316.2.1, bt316.2.2.1, bt316.2.2.2.1, bt316.2.2.2.2.1, bt316.2.2.2.2.2] a0) - a1)) a3) = 0 then (if a0 = 1 then (if a0 ≤ 2 then (some (bt308.1 == true)) else (some (bt308.1 == (a4_3 == 0)))) else (if a4_4 = 0 then (if a0 ≤ 2 then (some (bt308.1 == true)) else (some (bt308.1 == (a4_3 == 0)))) else (some (bt308.1 == false)))) else (some (bt308.1 == false)))) else (some (bt308.1 == false))) else (some (bt308.1 == false))) else (some false)) else (none)) else (none)))))) else (none))) else (none)) else (none))) else (none))) = some r := by rw [if_neg (show ¬ (false = true) by decide)] at H; exact H
        clear H
        have H := H1
        clear H1
        replace H := Option.bind_eq_some_iff.mp H
        obtain ⟨t304, A230, H⟩ := H
        replace H : (if t304.size + 1 ≤ 9223372036854775807 then ((spec_Decimal.f kj5 a2).bind fun t305 => (if (t304 ++ (⟨#[45]⟩ : ByteArray)).size + t305.size ≤ 9223372036854775807 then (if ((t304 ++ (⟨#[45]⟩ : ByteArray)) ++ t305).size + 1 ≤ 9223372036854775807 then ((spec_Decimal.f kj5 a3).bind fun t306 => (if (((t304 ++ (⟨#[45]⟩ : ByteArray)) ++ t305) ++ (⟨#[47]⟩ : ByteArray)).size + t306.size ≤ 9223372036854775807 then ((laws_stars.f kj5 a0 ((((t304 ++ (⟨#[45]⟩ : ByteArray)) ++ t305) ++ (⟨#[47]⟩ : ByteArray)) ++ t306)).bind fun t307 => ((impl_Due.f t307 a4_0 a4_1 a4_2 a4_3 a4_4 0).bind fun bt308 => ((laws_moment.f a4_0 a4_1 a4_2 a4_3 a4_4 0).bind fun bt310 => ((laws_numbers.f kj5 bt310.1 bt310.2.1 bt310.2.2.1 bt310.2.2.2.1 bt310.2.2.2.2.1 bt310.2.2.2.2.2).bind fun bt316 => (if 0 ≤ a0 then (if a0 < 6 then (if bt308.2 = true then (if (rd [bt316.1, bt316.2.1, bt316.2.2.1, bt316.2.2.2.1, bt316.2.2.2.2.1, bt316.2.2.2.2.2] a0) ≥ a1 then (if (rd [bt316.1, bt316.2.1, bt316.2.2.1, bt316.2.2.2.1, bt316.2.2.2.2.1, bt316.2.2.2.2.2] a0) ≤ a2 then (if a3 = 0 then (none) else (if (Int.tmod (wrap64 ((rd [bt316.1, bt316.2.1, bt316.2.2.1, bt316.2.2.2.1, bt316.2.2.2.2.1, bt316.2.2.2.2.2] a0) - a1)) a3) = 0 then (if a0 = 1 then (if a0 ≤ 2 then (some (bt308.1 == true)) else (some (bt308.1 == (a4_3 == 0)))) else (if a4_4 = 0 then (if a0 ≤ 2 then (some (bt308.1 == true)) else (some (bt308.1 == (a4_3 == 0)))) else (some (bt308.1 == false)))) else (some (bt308.1 == false)))) else (some (bt308.1 == false))) else (some (bt308.1 == false))) else (some false)) else (none)) else (none)))))) else (none))) else (none)) else (none))) else (none)) = some r := H
        have A23 := Aside0.mk A230
        clear A230
        by_cases c24 : t304.size + 1 ≤ 9223372036854775807
        · rw [if_pos c24] at H
          have c24b0 := eq_true c24
          have c24b1 : decide (t304.size + 1 ≤ 9223372036854775807) = true := decide_eq_true c24
          try have c24b2 : (9223372036854775807 < t304.size + 1) = False := eq_false (Nat.not_lt.2 c24)
          replace H := Option.bind_eq_some_iff.mp H
          obtain ⟨t305, A250, H⟩ := H
          replace H : (if (t304 ++ (⟨#[45]⟩ : ByteArray)).size + t305.size ≤ 9223372036854775807 then (if ((t304 ++ (⟨#[45]⟩ : ByteArray)) ++ t305).size + 1 ≤ 9223372036854775807 then ((spec_Decimal.f kj5 a3).bind fun t306 => (if (((t304 ++ (⟨#[45]⟩ : ByteArray)) ++ t305) ++ (⟨#[47]⟩ : ByteArray)).size + t306.size ≤ 9223372036854775807 then ((laws_stars.f kj5 a0 ((((t304 ++ (⟨#[45]⟩ : ByteArray)) ++ t305) ++ (⟨#[47]⟩ : ByteArray)) ++ t306)).bind fun t307 => ((impl_Due.f t307 a4_0 a4_1 a4_2 a4_3 a4_4 0).bind fun bt308 => ((laws_moment.f a4_0 a4_1 a4_2 a4_3 a4_4 0).bind fun bt310 => ((laws_numbers.f kj5 bt310.1 bt310.2.1 bt310.2.2.1 bt310.2.2.2.1 bt310.2.2.2.2.1 bt310.2.2.2.2.2).bind fun bt316 => (if 0 ≤ a0 then (if a0 < 6 then (if bt308.2 = true then (if (rd [bt316.1, bt316.2.1, bt316.2.2.1, bt316.2.2.2.1, bt316.2.2.2.2.1, bt316.2.2.2.2.2] a0) ≥ a1 then (if (rd [bt316.1, bt316.2.1, bt316.2.2.1, bt316.2.2.2.1, bt316.2.2.2.2.1, bt316.2.2.2.2.2] a0) ≤ a2 then (if a3 = 0 then (none) else (if (Int.tmod (wrap64 ((rd [bt316.1, bt316.2.1, bt316.2.2.1, bt316.2.2.2.1, bt316.2.2.2.2.1, bt316.2.2.2.2.2] a0) - a1)) a3) = 0 then (if a0 = 1 then (if a0 ≤ 2 then (some (bt308.1 == true)) else (some (bt308.1 == (a4_3 == 0)))) else (if a4_4 = 0 then (if a0 ≤ 2 then (some (bt308.1 == true)) else (some (bt308.1 == (a4_3 == 0)))) else (some (bt308.1 == false)))) else (some (bt308.1 == false)))) else (some (bt308.1 == false))) else (some (bt308.1 == false))) else (some false)) else (none)) else (none)))))) else (none))) else (none)) else (none)) = some r := H
          have A25 := Aside0.mk A250
          clear A250
          by_cases c26 : (t304 ++ (⟨#[45]⟩ : ByteArray)).size + t305.size ≤ 9223372036854775807
          · rw [if_pos c26] at H
            have c26b0 := eq_true c26
            have c26b1 : decide ((t304 ++ (⟨#[45]⟩ : ByteArray)).size + t305.size ≤ 9223372036854775807) = true := decide_eq_true c26
            try have c26b2 : (9223372036854775807 < (t304 ++ (⟨#[45]⟩ : ByteArray)).size + t305.size) = False := eq_false (Nat.not_lt.2 c26)
            (try have c26b3 : (9223372036854775807 < (t304.size + 1) + t305.size) = False := eq_false (Nat.not_lt.2 (by have h_ := c26; (try simp only [ByteArray.size_append] at h_); exact h_)))
            by_cases c27 : ((t304 ++ (⟨#[45]⟩ : ByteArray)) ++ t305).size + 1 ≤ 9223372036854775807
            · rw [if_pos c27] at H
              have c27b0 := eq_true c27
              have c27b1 : decide (((t304 ++ (⟨#[45]⟩ : ByteArray)) ++ t305).size + 1 ≤ 9223372036854775807) = true := decide_eq_true c27
              try have c27b2 : (9223372036854775807 < ((t304 ++ (⟨#[45]⟩ : ByteArray)) ++ t305).size + 1) = False := eq_false (Nat.not_lt.2 c27)
              (try have c27b3 : (9223372036854775807 < ((t304.size + 1) + t305.size) + 1) = False := eq_false (Nat.not_lt.2 (by have h_ := c27; (try simp only [ByteArray.size_append] at h_); exact h_)))
              replace H := Option.bind_eq_some_iff.mp H
              obtain ⟨t306, A280, H⟩ := H
              replace H : (if (((t304 ++ (⟨#[45]⟩ : ByteArray)) ++ t305) ++ (⟨#[47]⟩ : ByteArray)).size + t306.size ≤ 9223372036854775807 then ((laws_stars.f kj5 a0 ((((t304 ++ (⟨#[45]⟩ : ByteArray)) ++ t305) ++ (⟨#[47]⟩ : ByteArray)) ++ t306)).bind fun t307 => ((impl_Due.f t307 a4_0 a4_1 a4_2 a4_3 a4_4 0).bind fun bt308 => ((laws_moment.f a4_0 a4_1 a4_2 a4_3 a4_4 0).bind fun bt310 => ((laws_numbers.f kj5 bt310.1 bt310.2.1 bt310.2.2.1 bt310.2.2.2.1 bt310.2.2.2.2.1 bt310.2.2.2.2.2).bind fun bt316 => (if 0 ≤ a0 then (if a0 < 6 then (if bt308.2 = true then (if (rd [bt316.1, bt316.2.1, bt316.2.2.1, bt316.2.2.2.1, bt316.2.2.2.2.1, bt316.2.2.2.2.2] a0) ≥ a1 then (if (rd [bt316.1, bt316.2.1, bt316.2.2.1, bt316.2.2.2.1, bt316.2.2.2.2.1, bt316.2.2.2.2.2] a0) ≤ a2 then (if a3 = 0 then (none) else (if (Int.tmod (wrap64 ((rd [bt316.1, bt316.2.1, bt316.2.2.1, bt316.2.2.2.1, bt316.2.2.2.2.1, bt316.2.2.2.2.2] a0) - a1)) a3) = 0 then (if a0 = 1 then (if a0 ≤ 2 then (some (bt308.1 == true)) else (some (bt308.1 == (a4_3 == 0)))) else (if a4_4 = 0 then (if a0 ≤ 2 then (some (bt308.1 == true)) else (some (bt308.1 == (a4_3 == 0)))) else (some (bt308.1 == false)))) else (some (bt308.1 == false)))) else (some (bt308.1 == false))) else (some (bt308.1 == false))) else (some false)) else (none)) else (none)))))) else (none)) = some r := H
              have A28 := Aside0.mk A280
              clear A280
              by_cases c29 : (((t304 ++ (⟨#[45]⟩ : ByteArray)) ++ t305) ++ (⟨#[47]⟩ : ByteArray)).size + t306.size ≤ 9223372036854775807
              · rw [if_pos c29] at H
                have c29b0 := eq_true c29
                have c29b1 : decide ((((t304 ++ (⟨#[45]⟩ : ByteArray)) ++ t305) ++ (⟨#[47]⟩ : ByteArray)).size + t306.size ≤ 9223372036854775807) = true := decide_eq_true c29
                try have c29b2 : (9223372036854775807 < (((t304 ++ (⟨#[45]⟩ : ByteArray)) ++ t305) ++ (⟨#[47]⟩ : ByteArray)).size + t306.size) = False := eq_false (Nat.not_lt.2 c29)
                (try have c29b3 : (9223372036854775807 < (((t304.size + 1) + t305.size) + 1) + t306.size) = False := eq_false (Nat.not_lt.2 (by have h_ := c29; (try simp only [ByteArray.size_append] at h_); exact h_)))
                replace H := Option.bind_eq_some_iff.mp H
                obtain ⟨t307, A300, H⟩ := H
                replace H : ((impl_Due.f t307 a4_0 a4_1 a4_2 a4_3 a4_4 0).bind fun bt308 => ((laws_moment.f a4_0 a4_1 a4_2 a4_3 a4_4 0).bind fun bt310 => ((laws_numbers.f kj5 bt310.1 bt310.2.1 bt310.2.2.1 bt310.2.2.2.1 bt310.2.2.2.2.1 bt310.2.2.2.2.2).bind fun bt316 => (if 0 ≤ a0 then (if a0 < 6 then (if bt308.2 = true then (if (rd [bt316.1, bt316.2.1, bt316.2.2.1, bt316.2.2.2.1, bt316.2.2.2.2.1, bt316.2.2.2.2.2] a0) ≥ a1 then (if (rd [bt316.1, bt316.2.1, bt316.2.2.1, bt316.2.2.2.1, bt316.2.2.2.2.1, bt316.2.2.2.2.2] a0) ≤ a2 then (if a3 = 0 then (none) else (if (Int.tmod (wrap64 ((rd [bt316.1, bt316.2.1, bt316.2.2.1, bt316.2.2.2.1, bt316.2.2.2.2.1, bt316.2.2.2.2.2] a0) - a1)) a3) = 0 then (if a0 = 1 then (if a0 ≤ 2 then (some (bt308.1 == true)) else (some (bt308.1 == (a4_3 == 0)))) else (if a4_4 = 0 then (if a0 ≤ 2 then (some (bt308.1 == true)) else (some (bt308.1 == (a4_3 == 0)))) else (some (bt308.1 == false)))) else (some (bt308.1 == false)))) else (some (bt308.1 == false))) else (some (bt308.1 == false))) else (some false)) else (none)) else (none))))) = some r := H
                have A30 := Aside0.mk A300
                clear A300
                replace H := Option.bind_eq_some_iff.mp H
                obtain ⟨⟨t308, t309⟩, A310, H⟩ := H
                replace H : ((laws_moment.f a4_0 a4_1 a4_2 a4_3 a4_4 0).bind fun bt310 => ((laws_numbers.f kj5 bt310.1 bt310.2.1 bt310.2.2.1 bt310.2.2.2.1 bt310.2.2.2.2.1 bt310.2.2.2.2.2).bind fun bt316 => (if 0 ≤ a0 then (if a0 < 6 then (if t309 = true then (if (rd [bt316.1, bt316.2.1, bt316.2.2.1, bt316.2.2.2.1, bt316.2.2.2.2.1, bt316.2.2.2.2.2] a0) ≥ a1 then (if (rd [bt316.1, bt316.2.1, bt316.2.2.1, bt316.2.2.2.1, bt316.2.2.2.2.1, bt316.2.2.2.2.2] a0) ≤ a2 then (if a3 = 0 then (none) else (if (Int.tmod (wrap64 ((rd [bt316.1, bt316.2.1, bt316.2.2.1, bt316.2.2.2.1, bt316.2.2.2.2.1, bt316.2.2.2.2.2] a0) - a1)) a3) = 0 then (if a0 = 1 then (if a0 ≤ 2 then (some (t308 == true)) else (some (t308 == (a4_3 == 0)))) else (if a4_4 = 0 then (if a0 ≤ 2 then (some (t308 == true)) else (some (t308 == (a4_3 == 0)))) else (some (t308 == false)))) else (some (t308 == false)))) else (some (t308 == false))) else (some (t308 == false))) else (some false)) else (none)) else (none)))) = some r := H
                have A31 := Aside0.mk A310
                clear A310
                replace H := Option.bind_eq_some_iff.mp H
                obtain ⟨⟨t310, t311, t312, t313, t314, t315⟩, A320, H⟩ := H
                replace H : ((laws_numbers.f kj5 t310 t311 t312 t313 t314 t315).bind fun bt316 => (if 0 ≤ a0 then (if a0 < 6 then (if t309 = true then (if (rd [bt316.1, bt316.2.1, bt316.2.2.1, bt316.2.2.2.1, bt316.2.2.2.2.1, bt316.2.2.2.2.2] a0) ≥ a1 then (if (rd [bt316.1, bt316.2.1, bt316.2.2.1, bt316.2.2.2.1, bt316.2.2.2.2.1, bt316.2.2.2.2.2] a0) ≤ a2 then (if a3 = 0 then (none) else (if (Int.tmod (wrap64 ((rd [bt316.1, bt316.2.1, bt316.2.2.1, bt316.2.2.2.1, bt316.2.2.2.2.1, bt316.2.2.2.2.2] a0) - a1)) a3) = 0 then (if a0 = 1 then (if a0 ≤ 2 then (some (t308 == true)) else (some (t308 == (a4_3 == 0)))) else (if a4_4 = 0 then (if a0 ≤ 2 then (some (t308 == true)) else (some (t308 == (a4_3 == 0)))) else (some (t308 == false)))) else (some (t308 == false)))) else (some (t308 == false))) else (some (t308 == false))) else (some false)) else (none)) else (none))) = some r := H
                have A32 := Aside0.mk A320
                clear A320
                replace H := Option.bind_eq_some_iff.mp H
                obtain ⟨⟨t316, t317, t318, t319, t320, t321⟩, A330, H⟩ := H
                replace H : (if 0 ≤ a0 then (if a0 < 6 then (if t309 = true then (if (rd [t316, t317, t318, t319, t320, t321] a0) ≥ a1 then (if (rd [t316, t317, t318, t319, t320, t321] a0) ≤ a2 then (if a3 = 0 then (none) else (if (Int.tmod (wrap64 ((rd [t316, t317, t318, t319, t320, t321] a0) - a1)) a3) = 0 then (if a0 = 1 then (if a0 ≤ 2 then (some (t308 == true)) else (some (t308 == (a4_3 == 0)))) else (if a4_4 = 0 then (if a0 ≤ 2 then (some (t308 == true)) else (some (t308 == (a4_3 == 0)))) else (some (t308 == false)))) else (some (t308 == false)))) else (some (t308 == false))) else (some (t308 == false))) else (some false)) else (none)) else (none)) = some r := H
                have A33 := Aside0.mk A330
                clear A330
                by_cases c34 : 0 ≤ a0
                · rw [if_pos c34] at H
                  have c34b0 : decide (0 ≤ a0) = true := decide_eq_true c34
                  clear c34
                  by_cases c35 : a0 < 6
                  · rw [if_pos c35] at H
                    have c35b0 : decide (a0 < 6) = true := decide_eq_true c35
                    clear c35
                    have hixz322_ := fun w_ : World => (index_T50 t316 t317 t318 t319 t320 t321 a0 (of_decide_eq_true (by first | (with_reducible assumption) | assumption)) (of_decide_eq_true (by first | (with_reducible assumption) | assumption)) w_ : (Instr.index 50 (.agg #[.int .i64 t316, .int .i64 t317, .int .i64 t318, .int .i64 t319, .int .i64 t320, .int .i64 t321]) (.int .i64 a0)).run Tryz.prog w_ = .ok (.int .i64 (rd [t316, t317, t318, t319, t320, t321] a0)) w_)
                    by_cases c36 : t309 = true
                    · subst c36
                      have H1 : (if (rd [t316, t317, t318, t319, t320, t321] a0) ≥ a1 then (if (rd [t316, t317, t318, t319, t320, t321] a0) ≤ a2 then (if a3 = 0 then (none) else (if (Int.tmod (wrap64 ((rd [t316, t317, t318, t319, t320, t321] a0) - a1)) a3) = 0 then (if a0 = 1 then (if a0 ≤ 2 then (some (t308 == true)) else (some (t308 == (a4_3 == 0)))) else (if a4_4 = 0 then (if a0 ≤ 2 then (some (t308 == true)) else (some (t308 == (a4_3 == 0)))) else (some (t308 == false)))) else (some (t308 == false)))) else (some (t308 == false))) else (some (t308 == false))) = some r := by rw [if_pos rfl] at H; exact H
                      clear H
                      have H := H1
                      clear H1
                      by_cases c37 : (rd [t316, t317, t318, t319, t320, t321] a0) ≥ a1
                      · rw [if_pos c37] at H
                        have c37b0 : decide (a1 ≤ (rd [t316, t317, t318, t319, t320, t321] a0)) = true := decide_eq_true c37
                        clear c37
                        by_cases c38 : (rd [t316, t317, t318, t319, t320, t321] a0) ≤ a2
                        · rw [if_pos c38] at H
                          have c38b0 : decide ((rd [t316, t317, t318, t319, t320, t321] a0) ≤ a2) = true := decide_eq_true c38
                          clear c38
                          by_cases c39 : a3 = 0
                          · rw [if_pos c39] at H
                            exact absurd H (by simp)
                          · rw [if_neg c39] at H
                            have c39b0 : (a3 == 0) = false := beq_eq_false_iff_ne.mpr c39
                            have c39b1 : (a3 != 0) = true := bne_iff_ne.mpr c39
                            by_cases c40 : (Int.tmod (wrap64 ((rd [t316, t317, t318, t319, t320, t321] a0) - a1)) a3) = 0
                            · rw [if_pos c40] at H
                              have c40b0 : ((Int.tmod (wrap64 ((rd [t316, t317, t318, t319, t320, t321] a0) - a1)) a3) == 0) = true := beq_iff_eq.mpr c40
                              have c40b1 : ((Int.tmod (wrap64 ((rd [t316, t317, t318, t319, t320, t321] a0) - a1)) a3) != 0) = false := bne_eq_false_iff_eq.mpr c40
                              clear c40
                              by_cases c41 : a0 = 1
                              · rw [if_pos c41] at H
                                have c41b0 : (a0 == 1) = true := beq_iff_eq.mpr c41
                                have c41b1 : (a0 != 1) = false := bne_eq_false_iff_eq.mpr c41
                                clear c41
                                by_cases c42 : a0 ≤ 2
                                · rw [if_pos c42] at H
                                  have c42b0 : decide (a0 ≤ 2) = true := decide_eq_true c42
                                  clear c42
                                  obtain rfl := Option.some.inj H
                                  have hcz43_0 : wc.cell? ⟨gb294, 0, none⟩ = some (.int .i64 a4_0) := (blk_cell BK294.out 0).trans rfl
                                  have hcz43_1 : wc.cell? ⟨gb294, 1, none⟩ = some (.int .i64 a4_1) := (blk_cell BK294.out 1).trans rfl
                                  have hcz43_2 : wc.cell? ⟨gb294, 2, none⟩ = some (.int .i64 a4_2) := (blk_cell BK294.out 2).trans rfl
                                  have hcz43_3 : wc.cell? ⟨gb294, 3, none⟩ = some (.int .i64 a4_3) := (blk_cell BK294.out 3).trans rfl
                                  have hcz43_4 : wc.cell? ⟨gb294, 4, none⟩ = some (.int .i64 a4_4) := (blk_cell BK294.out 4).trans rfl
                                  have hcz43_5 : wc.cell? ⟨gb294, 5, none⟩ = some (.int .i64 a4_5) := (blk_cell BK294.out 5).trans rfl
                                  have hfz43_0 := blk_frozen BK294.out 0
                                  have hfz43_1 := blk_frozen BK294.out 1
                                  have hfz43_2 := blk_frozen BK294.out 2
                                  have hfz43_3 := blk_frozen BK294.out 3
                                  have hfz43_4 := blk_frozen BK294.out 4
                                  have hfz43_5 := blk_frozen BK294.out 5
                                  try go_wp2
                                  have n0_ : Aside0 ((wc.setCell ⟨gb294, 5, none⟩ (.int .i64 0)).heap[gb294]? = some (.cells #[.int .i64 a4_0, .int .i64 a4_1, .int .i64 a4_2, .int .i64 a4_3, .int .i64 a4_4, .int .i64 0] 26 (0, 0))) := ⟨by (with_reducible repeat (first | refine blk_drewN ?_ _ | refine blk_drew ?_ | refine blk_alloc ?_ _)); refine blk_put (cs := #[.int .i64 a4_0, .int .i64 a4_1, .int .i64 a4_2, .int .i64 a4_3, .int .i64 a4_4, .int .i64 a4_5]) ?_ 5 _ rfl; (with_reducible repeat (first | refine blk_drewN ?_ _ | refine blk_drew ?_ | refine blk_alloc ?_ _)); exact BK294.out⟩
                                  have n1_ : Aside0 (Below w.heap.size w (wc.setCell ⟨gb294, 5, none⟩ (.int .i64 0))) := ⟨by repeat (first | (with_reducible first | exact HB.out | apply below_alloc | apply pw_below_drewN | apply below_drew1 | refine below_set ?_ GE294.out) | exact HB.out)⟩
                                  (try clear BK294)
                                  (try clear HB)
                                  generalize (wc.setCell ⟨gb294, 5, none⟩ (.int .i64 0)) = w44 at n0_ n1_ ⊢
                                  have BK294 := n0_
                                  have HB := n1_
                                  clear n0_ n1_
                                  have n0_ := Aside0.mk (blk_drew BK294.out)
                                  have n1_ := Aside0.mk (below_drew1 HB.out)
                                  clear BK294
                                  clear HB
                                  have BK294 := n0_
                                  have HB := n1_
                                  clear n0_ n1_
                                  refine start_ (n := 19) (S := fun w' => w'.cell? ⟨gb294, 0, none⟩ = some (.int .i64 a4_0) ∧ w'.cell? ⟨gb294, 1, none⟩ = some (.int .i64 a4_1) ∧ w'.cell? ⟨gb294, 2, none⟩ = some (.int .i64 a4_2) ∧ w'.cell? ⟨gb294, 3, none⟩ = some (.int .i64 a4_3) ∧ w'.cell? ⟨gb294, 4, none⟩ = some (.int .i64 a4_4) ∧ w'.cell? ⟨gb294, 5, none⟩ = some (.int .i64 0)) (ds := []) #[false, false, false, false, false, false, false, false, false, false, false, false, false, false, false, false, false, false, false] (by kernel_rfl) rfl rfl ⟨(blk_cell BK294.out 0).trans rfl, (blk_cell BK294.out 1).trans rfl, (blk_cell BK294.out 2).trans rfl, (blk_cell BK294.out 3).trans rfl, (blk_cell BK294.out 4).trans rfl, (blk_cell BK294.out 5).trans rfl⟩ (fun hHeld => ?_); refine with_tabW laws_FnStepRange.tab4 laws_FnStepRange.bits4 (fun HT_ HW_ => ?_)
                                  generalize w44.drew = w45 at BK294 HB hHeld ⊢
                                  refine pure_ (i := 0) (N := some 53) (v := ?_) (a' := ?_) #[true, false, false, false, false, false, false, false, false, false, false, false, false, false, false, false, false, false, false] rfl rfl (any_of HT_.out (by kernel_rfl)) (fun _ _ _ h => h) (Or.inl ⟨by rfl, ?_⟩) ?_ ?_
                                  rotate_left
                                  · intro w'
                                    go_simp
                                    with_reducible rfl
                                  rotate_left
                                  · simp only [Act.put, List.setIfInBounds_toArray, List.set_cons_zero, List.set_cons_succ, i64_w, i32_w]
                                    rfl
                                  refine pure_ (i := 1) (N := some 54) (v := ?_) (a' := ?_) #[true, true, false, false, false, false, false, false, false, false, false, false, false, false, false, false, false, false, false] rfl rfl (any_of HT_.out (by kernel_rfl)) (fun _ _ _ h => h) (Or.inl ⟨by rfl, ?_⟩) ?_ ?_
                                  rotate_left
                                  · intro w'
                                    go_simp
                                    with_reducible rfl
                                  rotate_left
                                  · simp only [Act.put, List.setIfInBounds_toArray, List.set_cons_zero, List.set_cons_succ, i64_w, i32_w]
                                    rfl
                                  refine pure_ (i := 4) (N := some 57) (v := ?_) (a' := ?_) #[true, true, false, false, true, false, false, false, false, false, false, false, false, false, false, false, false, false, false] rfl rfl (any_of HT_.out (by kernel_rfl)) (fun _ _ _ h => h) (Or.inl ⟨by rfl, ?_⟩) ?_ ?_
                                  rotate_left
                                  · intro w'
                                    go_simp
                                    with_reducible rfl
                                  rotate_left
                                  · simp only [Act.put, List.setIfInBounds_toArray, List.set_cons_zero, List.set_cons_succ, i64_w, i32_w]
                                    rfl
                                  refine pure_ (i := 8) (N := some 61) (v := ?_) (a' := ?_) #[true, true, false, false, true, false, false, false, true, false, false, false, false, false, false, false, false, false, false] rfl rfl (any_of HT_.out (by kernel_rfl)) (fun _ _ _ h => h) (Or.inl ⟨by rfl, ?_⟩) ?_ ?_
                                  rotate_left
                                  · intro w'
                                    go_simp
                                    with_reducible rfl
                                  rotate_left
                                  · simp only [Act.put, List.setIfInBounds_toArray, List.set_cons_zero, List.set_cons_succ, i64_w, i32_w]
                                    rfl
                                  refine take_ (i := 12) (N := some 65) (v := ?_) (a' := ?_) #[true, true, false, false, true, false, false, false, true, false, false, false, true, false, false, false, false, false, false] rfl rfl (take_ofW HT_.out HW_.out (by kernel_rfl)) (fun _ _ _ h => h) (Or.inl ⟨by rfl, ?_⟩) hHeld ?_ ?_
                                  rotate_left
                                  · rintro w' ⟨s0, s1, s2, s3, s4, s5⟩
                                    go_simp
                                    with_reducible rfl
                                  rotate_left
                                  · simp only [Act.put, List.setIfInBounds_toArray, List.set_cons_zero, List.set_cons_succ, i64_w, i32_w]
                                    rfl
                                  refine one_ (i := 2) (N := some 55) #[true, true, true, false, true, false, false, false, true, false, false, false, true, false, false, false, false, false, false] rfl rfl (one_of HT_.out (by kernel_rfl)) (by decide) (fun K hK => ?_)
                                  refine goes_ Tryz.func24 (by kernel_rfl) rfl #[.int .i64 a1] (by rfl) rfl rfl (by (try simp only [List.map_toArray, List.map_cons, List.map_nil]); first | done | rfl | (simp only [List.length_drop, List.length_take]; rfl)) ?_
                                  with_reducible refine (spec_Decimal.calls kj5 a1 t304 _ A23.out).mono ?_
                                  rintro e w' ⟨rfl, ⟨nd, rfl⟩⟩
                                  refine ⟨_, rfl, ?_⟩
                                  refine hK.out _ _ ⟨(blk_cell BK294.out 0).trans rfl, (blk_cell BK294.out 1).trans rfl, (blk_cell BK294.out 2).trans rfl, (blk_cell BK294.out 3).trans rfl, (blk_cell BK294.out 4).trans rfl, (blk_cell BK294.out 5).trans rfl⟩ (fun hHeld => ?_)
                                  clear hK K
                                  refine norm_ (a' := ?_) ?_ ?_
                                  rotate_left
                                  · show Act.put _ (some 55) _ = _
                                    simp only [Act.put, List.setIfInBounds_toArray, List.set_cons_zero, List.set_cons_succ, i64_w, i32_w]
                                    rfl
                                  refine pure_ (i := 3) (N := some 56) (v := ?_) (a' := ?_) #[true, true, true, true, true, false, false, false, true, false, false, false, true, false, false, false, false, false, false] rfl rfl (any_of HT_.out (by kernel_rfl)) (fun _ _ _ h => h) (Or.inl ⟨by rfl, ?_⟩) ?_ ?_
                                  rotate_left
                                  · intro w'
                                    go_simp
                                    with_reducible rfl
                                  rotate_left
                                  · simp only [Act.put, List.setIfInBounds_toArray, List.set_cons_zero, List.set_cons_succ, i64_w, i32_w]
                                    rfl
                                  refine one_ (i := 5) (N := some 58) #[true, true, true, true, true, true, false, false, true, false, false, false, true, false, false, false, false, false, false] rfl rfl (one_of HT_.out (by kernel_rfl)) (by decide) (fun K hK => ?_)
                                  refine goes_ Tryz.func24 (by kernel_rfl) rfl #[.int .i64 a2] (by rfl) rfl rfl (by (try simp only [List.map_toArray, List.map_cons, List.map_nil]); first | done | rfl | (simp only [List.length_drop, List.length_take]; rfl)) ?_
                                  with_reducible refine (spec_Decimal.calls kj5 a2 t305 _ A25.out).mono ?_
                                  rintro e w' ⟨rfl, ⟨nd, rfl⟩⟩
                                  refine ⟨_, rfl, ?_⟩
                                  refine hK.out _ _ ⟨(blk_cell BK294.out 0).trans rfl, (blk_cell BK294.out 1).trans rfl, (blk_cell BK294.out 2).trans rfl, (blk_cell BK294.out 3).trans rfl, (blk_cell BK294.out 4).trans rfl, (blk_cell BK294.out 5).trans rfl⟩ (fun hHeld => ?_)
                                  clear hK K
                                  refine norm_ (a' := ?_) ?_ ?_
                                  rotate_left
                                  · show Act.put _ (some 58) _ = _
                                    simp only [Act.put, List.setIfInBounds_toArray, List.set_cons_zero, List.set_cons_succ, i64_w, i32_w]
                                    rfl
                                  refine pure_ (i := 6) (N := some 59) (v := ?_) (a' := ?_) #[true, true, true, true, true, true, true, false, true, false, false, false, true, false, false, false, false, false, false] rfl rfl (any_of HT_.out (by kernel_rfl)) (fun _ _ _ h => h) (Or.inl ⟨by rfl, ?_⟩) ?_ ?_
                                  rotate_left
                                  · intro w'
                                    go_simp
                                    with_reducible rfl
                                  rotate_left
                                  · simp only [Act.put, List.setIfInBounds_toArray, List.set_cons_zero, List.set_cons_succ, i64_w, i32_w]
                                    rfl
                                  refine pure_ (i := 7) (N := some 60) (v := ?_) (a' := ?_) #[true, true, true, true, true, true, true, true, true, false, false, false, true, false, false, false, false, false, false] rfl rfl (any_of HT_.out (by kernel_rfl)) (fun _ _ _ h => h) (Or.inl ⟨by rfl, ?_⟩) ?_ ?_
                                  rotate_left
                                  · intro w'
                                    go_simp
                                    with_reducible rfl
                                  rotate_left
                                  · simp only [Act.put, List.setIfInBounds_toArray, List.set_cons_zero, List.set_cons_succ, i64_w, i32_w]
                                    rfl
                                  refine one_ (i := 9) (N := some 62) #[true, true, true, true, true, true, true, true, true, true, false, false, true, false, false, false, false, false, false] rfl rfl (one_of HT_.out (by kernel_rfl)) (by decide) (fun K hK => ?_)
                                  refine goes_ Tryz.func24 (by kernel_rfl) rfl #[.int .i64 a3] (by rfl) rfl rfl (by (try simp only [List.map_toArray, List.map_cons, List.map_nil]); first | done | rfl | (simp only [List.length_drop, List.length_take]; rfl)) ?_
                                  with_reducible refine (spec_Decimal.calls kj5 a3 t306 _ A28.out).mono ?_
                                  rintro e w' ⟨rfl, ⟨nd, rfl⟩⟩
                                  refine ⟨_, rfl, ?_⟩
                                  refine hK.out _ _ ⟨(blk_cell BK294.out 0).trans rfl, (blk_cell BK294.out 1).trans rfl, (blk_cell BK294.out 2).trans rfl, (blk_cell BK294.out 3).trans rfl, (blk_cell BK294.out 4).trans rfl, (blk_cell BK294.out 5).trans rfl⟩ (fun hHeld => ?_)
                                  clear hK K
                                  refine norm_ (a' := ?_) ?_ ?_
                                  rotate_left
                                  · show Act.put _ (some 62) _ = _
                                    simp only [Act.put, List.setIfInBounds_toArray, List.set_cons_zero, List.set_cons_succ, i64_w, i32_w]
                                    rfl
                                  refine pure_ (i := 10) (N := some 63) (v := ?_) (a' := ?_) #[true, true, true, true, true, true, true, true, true, true, true, false, true, false, false, false, false, false, false] rfl rfl (any_of HT_.out (by kernel_rfl)) (fun _ _ _ h => h) (Or.inl ⟨by rfl, ?_⟩) ?_ ?_
                                  rotate_left
                                  · intro w'
                                    go_simp
                                    with_reducible rfl
                                  rotate_left
                                  · simp only [Act.put, List.setIfInBounds_toArray, List.set_cons_zero, List.set_cons_succ, i64_w, i32_w]
                                    rfl
                                  refine one_ (i := 11) (N := some 64) #[true, true, true, true, true, true, true, true, true, true, true, true, true, false, false, false, false, false, false] rfl rfl (one_of HT_.out (by kernel_rfl)) (by decide) (fun K hK => ?_)
                                  refine goes_ Tryz.func23 (by kernel_rfl) rfl #[.int .i64 a0, .string ((((t304 ++ (⟨#[45]⟩ : ByteArray)) ++ t305) ++ (⟨#[47]⟩ : ByteArray)) ++ t306)] (by rfl) rfl rfl (by (try simp only [List.map_toArray, List.map_cons, List.map_nil]); first | done | rfl | (simp only [List.length_drop, List.length_take]; rfl)) ?_
                                  with_reducible refine (laws_stars.calls kj5 a0 ((((t304 ++ (⟨#[45]⟩ : ByteArray)) ++ t305) ++ (⟨#[47]⟩ : ByteArray)) ++ t306) t307 _ A30.out).mono ?_
                                  rintro e w' ⟨rfl, ⟨nd, rfl⟩⟩
                                  refine ⟨_, rfl, ?_⟩
                                  refine hK.out _ _ ⟨(blk_cell BK294.out 0).trans rfl, (blk_cell BK294.out 1).trans rfl, (blk_cell BK294.out 2).trans rfl, (blk_cell BK294.out 3).trans rfl, (blk_cell BK294.out 4).trans rfl, (blk_cell BK294.out 5).trans rfl⟩ (fun hHeld => ?_)
                                  clear hK K
                                  refine norm_ (a' := ?_) ?_ ?_
                                  rotate_left
                                  · show Act.put _ (some 64) _ = _
                                    simp only [Act.put, List.setIfInBounds_toArray, List.set_cons_zero, List.set_cons_succ, i64_w, i32_w]
                                    rfl
                                  refine one_ (i := 13) (N := some 66) #[true, true, true, true, true, true, true, true, true, true, true, true, true, true, false, false, false, false, false] rfl rfl (one_of HT_.out (by kernel_rfl)) (by decide) (fun K hK => ?_)
                                  refine goes_ Tryz.func14 (by kernel_rfl) rfl #[.string t307, .agg #[.int .i64 a4_0, .int .i64 a4_1, .int .i64 a4_2, .int .i64 a4_3, .int .i64 a4_4, .int .i64 0]] (by rfl) rfl rfl (by (try simp only [List.map_toArray, List.map_cons, List.map_nil]); first | done | rfl | (simp only [List.length_drop, List.length_take]; rfl)) ?_
                                  with_reducible refine (impl_Due.calls t307 a4_0 a4_1 a4_2 a4_3 a4_4 0 t308 true _ A31.out).mono ?_
                                  rintro e w46 ⟨rfl, hb⟩
                                  refine ⟨_, rfl, ?_⟩
                                  have n0_ := Aside0.mk (blk_below (g := gb294) (o := .cells #[.int .i64 a4_0, .int .i64 a4_1, .int .i64 a4_2, .int .i64 a4_3, .int .i64 a4_4, .int .i64 0] 26 (0, 0)) (by (with_reducible repeat (first | refine blk_drewN ?_ _ | refine blk_drew ?_ | refine blk_alloc ?_ _)); exact BK294.out) hb)
                                  have n1_ := Aside0.mk (below_step (by repeat (first | (with_reducible first | exact HB.out | apply below_alloc | apply pw_below_drewN | apply below_drew1 | refine below_set ?_ GE294.out) | exact HB.out)) hb)
                                  clear BK294
                                  clear HB
                                  have BK294 := n0_
                                  have HB := n1_
                                  clear n0_ n1_
                                  (try clear hb)
                                  (try clear hb2)
                                  (try clear hk)
                                  (try clear hi)
                                  refine hK.out _ _ ⟨(blk_cell BK294.out 0).trans rfl, (blk_cell BK294.out 1).trans rfl, (blk_cell BK294.out 2).trans rfl, (blk_cell BK294.out 3).trans rfl, (blk_cell BK294.out 4).trans rfl, (blk_cell BK294.out 5).trans rfl⟩ (fun hHeld => ?_)
                                  clear hK K
                                  refine norm_ (a' := ?_) ?_ ?_
                                  rotate_left
                                  · show Act.put _ (some 66) _ = _
                                    simp only [Act.put, List.setIfInBounds_toArray, List.set_cons_zero, List.set_cons_succ, i64_w, i32_w]
                                    rfl
                                  refine pure_ (i := 14) (N := some 52) (v := ?_) (a' := ?_) #[true, true, true, true, true, true, true, true, true, true, true, true, true, true, true, false, false, false, false] rfl rfl (any_of HT_.out (by kernel_rfl)) (fun _ _ _ h => h) (Or.inl ⟨by rfl, ?_⟩) ?_ ?_
                                  rotate_left
                                  · intro w'
                                    go_simp
                                    with_reducible rfl
                                  rotate_left
                                  · simp only [Act.put, List.setIfInBounds_toArray, List.set_cons_zero, List.set_cons_succ, i64_w, i32_w]
                                    rfl
                                  refine pure_ (i := 15) (N := some 67) (v := ?_) (a' := ?_) #[true, true, true, true, true, true, true, true, true, true, true, true, true, true, true, true, false, false, false] rfl rfl (any_of HT_.out (by kernel_rfl)) (fun _ _ _ h => h) (Or.inl ⟨by rfl, ?_⟩) ?_ ?_
                                  rotate_left
                                  · intro w'
                                    go_simp
                                    with_reducible rfl
                                  rotate_left
                                  · simp only [Act.put, List.setIfInBounds_toArray, List.set_cons_zero, List.set_cons_succ, i64_w, i32_w]
                                    rfl
                                  refine pure_ (i := 16) (N := some 68) (v := ?_) (a' := ?_) #[true, true, true, true, true, true, true, true, true, true, true, true, true, true, true, true, true, false, false] rfl rfl (any_of HT_.out (by kernel_rfl)) (fun _ _ _ h => h) (Or.inl ⟨by rfl, ?_⟩) ?_ ?_
                                  rotate_left
                                  · intro w'
                                    go_simp
                                    with_reducible rfl
                                  rotate_left
                                  · simp only [Act.put, List.setIfInBounds_toArray, List.set_cons_zero, List.set_cons_succ, i64_w, i32_w]
                                    rfl
                                  refine pure_ (i := 17) (N := some 11) (v := ?_) (a' := ?_) #[true, true, true, true, true, true, true, true, true, true, true, true, true, true, true, true, true, true, false] rfl rfl (any_of HT_.out (by kernel_rfl)) (fun _ _ _ h => h) (Or.inl ⟨by rfl, ?_⟩) ?_ ?_
                                  rotate_left
                                  · intro w'
                                    go_simp
                                    with_reducible rfl
                                  rotate_left
                                  · simp only [Act.put, List.setIfInBounds_toArray, List.set_cons_zero, List.set_cons_succ, i64_w, i32_w]
                                    rfl
                                  refine pure_ (i := 18) (N := some 12) (v := ?_) (a' := ?_) #[true, true, true, true, true, true, true, true, true, true, true, true, true, true, true, true, true, true, true] rfl rfl (any_of HT_.out (by kernel_rfl)) (fun _ _ _ h => h) (Or.inl ⟨by rfl, ?_⟩) ?_ ?_
                                  rotate_left
                                  · intro w'
                                    go_simp
                                    with_reducible rfl
                                  rotate_left
                                  · simp only [Act.put, List.setIfInBounds_toArray, List.set_cons_zero, List.set_cons_succ, i64_w, i32_w]
                                    rfl
                                  refine done_ (done_of HT_.out (by kernel_rfl)) ?_
                                  have hcz47_0 : w46.cell? ⟨gb294, 0, none⟩ = some (.int .i64 a4_0) := (blk_cell BK294.out 0).trans rfl
                                  have hcz47_1 : w46.cell? ⟨gb294, 1, none⟩ = some (.int .i64 a4_1) := (blk_cell BK294.out 1).trans rfl
                                  have hcz47_2 : w46.cell? ⟨gb294, 2, none⟩ = some (.int .i64 a4_2) := (blk_cell BK294.out 2).trans rfl
                                  have hcz47_3 : w46.cell? ⟨gb294, 3, none⟩ = some (.int .i64 a4_3) := (blk_cell BK294.out 3).trans rfl
                                  have hcz47_4 : w46.cell? ⟨gb294, 4, none⟩ = some (.int .i64 a4_4) := (blk_cell BK294.out 4).trans rfl
                                  have hcz47_5 : w46.cell? ⟨gb294, 5, none⟩ = some (.int .i64 0) := (blk_cell BK294.out 5).trans rfl
                                  have hfz47_0 := blk_frozen BK294.out 0
                                  have hfz47_1 := blk_frozen BK294.out 1
                                  have hfz47_2 := blk_frozen BK294.out 2
                                  have hfz47_3 := blk_frozen BK294.out 3
                                  have hfz47_4 := blk_frozen BK294.out 4
                                  have hfz47_5 := blk_frozen BK294.out 5
                                  try go_wp2_with (first | ((with_reducible refine gate_callee (f := 19) rfl ?_); refine goesL_ (some 70) rfl rfl Tryz.func19 (by kernel_rfl) rfl #[.agg #[.int .i64 a4_0, .int .i64 a4_1, .int .i64 a4_2, .int .i64 a4_3, .int .i64 a4_4, .int .i64 0]] rfl (by (try simp only [List.map_toArray, List.map_cons, List.map_nil]); first | done | rfl | (simp only [List.length_drop, List.length_take]; rfl)) ?_; (with_reducible refine (laws_moment.calls a4_0 a4_1 a4_2 a4_3 a4_4 0 t310 t311 t312 t313 t314 t315 _ A32.out).mono ?_); rintro e w48 ⟨rfl, hb⟩; refine ⟨_, rfl, ?_⟩; have n0_ := Aside0.mk (blk_below (g := gb294) (o := .cells #[.int .i64 a4_0, .int .i64 a4_1, .int .i64 a4_2, .int .i64 a4_3, .int .i64 a4_4, .int .i64 0] 26 (0, 0)) (by (with_reducible repeat (first | refine blk_drewN ?_ _ | refine blk_drew ?_ | refine blk_alloc ?_ _)); exact BK294.out) hb); have n1_ := Aside0.mk (below_step (by repeat (first | (with_reducible first | exact HB.out | apply below_alloc | apply pw_below_drewN | apply below_drew1 | refine below_set ?_ GE294.out) | exact HB.out)) hb); clear BK294; clear HB; have BK294 := n0_; have HB := n1_; clear n0_ n1_; (try clear hb); (try clear hb2); (try clear hk); (try clear hi)) | ((with_reducible refine gate_callee (f := 25) rfl ?_); refine goesL_ (some 71) rfl rfl Tryz.func25 (by kernel_rfl) rfl #[.agg #[.int .i64 t310, .int .i64 t311, .int .i64 t312, .int .i64 t313, .int .i64 t314, .int .i64 t315]] rfl (by (try simp only [List.map_toArray, List.map_cons, List.map_nil]); first | done | rfl | (simp only [List.length_drop, List.length_take]; rfl)) ?_; (with_reducible refine (laws_numbers.calls kj5 t310 t311 t312 t313 t314 t315 t316 t317 t318 t319 t320 t321 _ A33.out).mono ?_); rintro e w49 ⟨rfl, hb⟩; refine ⟨_, rfl, ?_⟩; have n0_ := Aside0.mk (blk_below (g := gb294) (o := .cells #[.int .i64 a4_0, .int .i64 a4_1, .int .i64 a4_2, .int .i64 a4_3, .int .i64 a4_4, .int .i64 0] 26 (0, 0)) (by (with_reducible repeat (first | refine blk_drewN ?_ _ | refine blk_drew ?_ | refine blk_alloc ?_ _)); exact BK294.out) hb); have n1_ := Aside0.mk (below_step (by repeat (first | (with_reducible first | exact HB.out | apply below_alloc | apply pw_below_drewN | apply below_drew1 | refine below_set ?_ GE294.out) | exact HB.out)) hb); clear BK294; clear HB; have BK294 := n0_; have HB := n1_; clear n0_ n1_; (try clear hb); (try clear hb2); (try clear hk); (try clear hi)))
                                  go_ret
                                  exact ⟨by first | rfl | (simp [errW_none, errW_some] <;> rfl) | (simp [*, errW_none, errW_some] <;> rfl), by repeat (first | (with_reducible first | exact HB.out | apply below_alloc | apply pw_below_drewN | apply below_drew1 | refine below_set ?_ GE294.out) | exact HB.out)⟩
                                · rw [if_neg c42] at H
                                  have c42b0 : decide (a0 ≤ 2) = false := decide_eq_false c42
                                  clear c42
                                  obtain rfl := Option.some.inj H
                                  have hcz50_0 : wc.cell? ⟨gb294, 0, none⟩ = some (.int .i64 a4_0) := (blk_cell BK294.out 0).trans rfl
                                  have hcz50_1 : wc.cell? ⟨gb294, 1, none⟩ = some (.int .i64 a4_1) := (blk_cell BK294.out 1).trans rfl
                                  have hcz50_2 : wc.cell? ⟨gb294, 2, none⟩ = some (.int .i64 a4_2) := (blk_cell BK294.out 2).trans rfl
                                  have hcz50_3 : wc.cell? ⟨gb294, 3, none⟩ = some (.int .i64 a4_3) := (blk_cell BK294.out 3).trans rfl
                                  have hcz50_4 : wc.cell? ⟨gb294, 4, none⟩ = some (.int .i64 a4_4) := (blk_cell BK294.out 4).trans rfl
                                  have hcz50_5 : wc.cell? ⟨gb294, 5, none⟩ = some (.int .i64 a4_5) := (blk_cell BK294.out 5).trans rfl
                                  have hfz50_0 := blk_frozen BK294.out 0
                                  have hfz50_1 := blk_frozen BK294.out 1
                                  have hfz50_2 := blk_frozen BK294.out 2
                                  have hfz50_3 := blk_frozen BK294.out 3
                                  have hfz50_4 := blk_frozen BK294.out 4
                                  have hfz50_5 := blk_frozen BK294.out 5
                                  try go_wp2
                                  have n0_ : Aside0 ((wc.setCell ⟨gb294, 5, none⟩ (.int .i64 0)).heap[gb294]? = some (.cells #[.int .i64 a4_0, .int .i64 a4_1, .int .i64 a4_2, .int .i64 a4_3, .int .i64 a4_4, .int .i64 0] 26 (0, 0))) := ⟨by (with_reducible repeat (first | refine blk_drewN ?_ _ | refine blk_drew ?_ | refine blk_alloc ?_ _)); refine blk_put (cs := #[.int .i64 a4_0, .int .i64 a4_1, .int .i64 a4_2, .int .i64 a4_3, .int .i64 a4_4, .int .i64 a4_5]) ?_ 5 _ rfl; (with_reducible repeat (first | refine blk_drewN ?_ _ | refine blk_drew ?_ | refine blk_alloc ?_ _)); exact BK294.out⟩
                                  have n1_ : Aside0 (Below w.heap.size w (wc.setCell ⟨gb294, 5, none⟩ (.int .i64 0))) := ⟨by repeat (first | (with_reducible first | exact HB.out | apply below_alloc | apply pw_below_drewN | apply below_drew1 | refine below_set ?_ GE294.out) | exact HB.out)⟩
                                  (try clear BK294)
                                  (try clear HB)
                                  generalize (wc.setCell ⟨gb294, 5, none⟩ (.int .i64 0)) = w51 at n0_ n1_ ⊢
                                  have BK294 := n0_
                                  have HB := n1_
                                  clear n0_ n1_
                                  have n0_ := Aside0.mk (blk_drew BK294.out)
                                  have n1_ := Aside0.mk (below_drew1 HB.out)
                                  clear BK294
                                  clear HB
                                  have BK294 := n0_
                                  have HB := n1_
                                  clear n0_ n1_
                                  refine start_ (n := 19) (S := fun w' => w'.cell? ⟨gb294, 0, none⟩ = some (.int .i64 a4_0) ∧ w'.cell? ⟨gb294, 1, none⟩ = some (.int .i64 a4_1) ∧ w'.cell? ⟨gb294, 2, none⟩ = some (.int .i64 a4_2) ∧ w'.cell? ⟨gb294, 3, none⟩ = some (.int .i64 a4_3) ∧ w'.cell? ⟨gb294, 4, none⟩ = some (.int .i64 a4_4) ∧ w'.cell? ⟨gb294, 5, none⟩ = some (.int .i64 0)) (ds := []) #[false, false, false, false, false, false, false, false, false, false, false, false, false, false, false, false, false, false, false] (by kernel_rfl) rfl rfl ⟨(blk_cell BK294.out 0).trans rfl, (blk_cell BK294.out 1).trans rfl, (blk_cell BK294.out 2).trans rfl, (blk_cell BK294.out 3).trans rfl, (blk_cell BK294.out 4).trans rfl, (blk_cell BK294.out 5).trans rfl⟩ (fun hHeld => ?_); refine with_tabW laws_FnStepRange.tab4 laws_FnStepRange.bits4 (fun HT_ HW_ => ?_)
                                  generalize w51.drew = w52 at BK294 HB hHeld ⊢
                                  refine pure_ (i := 0) (N := some 53) (v := ?_) (a' := ?_) #[true, false, false, false, false, false, false, false, false, false, false, false, false, false, false, false, false, false, false] rfl rfl (any_of HT_.out (by kernel_rfl)) (fun _ _ _ h => h) (Or.inl ⟨by rfl, ?_⟩) ?_ ?_
                                  rotate_left
                                  · intro w'
                                    go_simp
                                    with_reducible rfl
                                  rotate_left
                                  · simp only [Act.put, List.setIfInBounds_toArray, List.set_cons_zero, List.set_cons_succ, i64_w, i32_w]
                                    rfl
                                  refine pure_ (i := 1) (N := some 54) (v := ?_) (a' := ?_) #[true, true, false, false, false, false, false, false, false, false, false, false, false, false, false, false, false, false, false] rfl rfl (any_of HT_.out (by kernel_rfl)) (fun _ _ _ h => h) (Or.inl ⟨by rfl, ?_⟩) ?_ ?_
                                  rotate_left
                                  · intro w'
                                    go_simp
                                    with_reducible rfl
                                  rotate_left
                                  · simp only [Act.put, List.setIfInBounds_toArray, List.set_cons_zero, List.set_cons_succ, i64_w, i32_w]
                                    rfl
                                  refine pure_ (i := 4) (N := some 57) (v := ?_) (a' := ?_) #[true, true, false, false, true, false, false, false, false, false, false, false, false, false, false, false, false, false, false] rfl rfl (any_of HT_.out (by kernel_rfl)) (fun _ _ _ h => h) (Or.inl ⟨by rfl, ?_⟩) ?_ ?_
                                  rotate_left
                                  · intro w'
                                    go_simp
                                    with_reducible rfl
                                  rotate_left
                                  · simp only [Act.put, List.setIfInBounds_toArray, List.set_cons_zero, List.set_cons_succ, i64_w, i32_w]
                                    rfl
                                  refine pure_ (i := 8) (N := some 61) (v := ?_) (a' := ?_) #[true, true, false, false, true, false, false, false, true, false, false, false, false, false, false, false, false, false, false] rfl rfl (any_of HT_.out (by kernel_rfl)) (fun _ _ _ h => h) (Or.inl ⟨by rfl, ?_⟩) ?_ ?_
                                  rotate_left
                                  · intro w'
                                    go_simp
                                    with_reducible rfl
                                  rotate_left
                                  · simp only [Act.put, List.setIfInBounds_toArray, List.set_cons_zero, List.set_cons_succ, i64_w, i32_w]
                                    rfl
                                  refine take_ (i := 12) (N := some 65) (v := ?_) (a' := ?_) #[true, true, false, false, true, false, false, false, true, false, false, false, true, false, false, false, false, false, false] rfl rfl (take_ofW HT_.out HW_.out (by kernel_rfl)) (fun _ _ _ h => h) (Or.inl ⟨by rfl, ?_⟩) hHeld ?_ ?_
                                  rotate_left
                                  · rintro w' ⟨s0, s1, s2, s3, s4, s5⟩
                                    go_simp
                                    with_reducible rfl
                                  rotate_left
                                  · simp only [Act.put, List.setIfInBounds_toArray, List.set_cons_zero, List.set_cons_succ, i64_w, i32_w]
                                    rfl
                                  refine one_ (i := 2) (N := some 55) #[true, true, true, false, true, false, false, false, true, false, false, false, true, false, false, false, false, false, false] rfl rfl (one_of HT_.out (by kernel_rfl)) (by decide) (fun K hK => ?_)
                                  refine goes_ Tryz.func24 (by kernel_rfl) rfl #[.int .i64 a1] (by rfl) rfl rfl (by (try simp only [List.map_toArray, List.map_cons, List.map_nil]); first | done | rfl | (simp only [List.length_drop, List.length_take]; rfl)) ?_
                                  with_reducible refine (spec_Decimal.calls kj5 a1 t304 _ A23.out).mono ?_
                                  rintro e w' ⟨rfl, ⟨nd, rfl⟩⟩
                                  refine ⟨_, rfl, ?_⟩
                                  refine hK.out _ _ ⟨(blk_cell BK294.out 0).trans rfl, (blk_cell BK294.out 1).trans rfl, (blk_cell BK294.out 2).trans rfl, (blk_cell BK294.out 3).trans rfl, (blk_cell BK294.out 4).trans rfl, (blk_cell BK294.out 5).trans rfl⟩ (fun hHeld => ?_)
                                  clear hK K
                                  refine norm_ (a' := ?_) ?_ ?_
                                  rotate_left
                                  · show Act.put _ (some 55) _ = _
                                    simp only [Act.put, List.setIfInBounds_toArray, List.set_cons_zero, List.set_cons_succ, i64_w, i32_w]
                                    rfl
                                  refine pure_ (i := 3) (N := some 56) (v := ?_) (a' := ?_) #[true, true, true, true, true, false, false, false, true, false, false, false, true, false, false, false, false, false, false] rfl rfl (any_of HT_.out (by kernel_rfl)) (fun _ _ _ h => h) (Or.inl ⟨by rfl, ?_⟩) ?_ ?_
                                  rotate_left
                                  · intro w'
                                    go_simp
                                    with_reducible rfl
                                  rotate_left
                                  · simp only [Act.put, List.setIfInBounds_toArray, List.set_cons_zero, List.set_cons_succ, i64_w, i32_w]
                                    rfl
                                  refine one_ (i := 5) (N := some 58) #[true, true, true, true, true, true, false, false, true, false, false, false, true, false, false, false, false, false, false] rfl rfl (one_of HT_.out (by kernel_rfl)) (by decide) (fun K hK => ?_)
                                  refine goes_ Tryz.func24 (by kernel_rfl) rfl #[.int .i64 a2] (by rfl) rfl rfl (by (try simp only [List.map_toArray, List.map_cons, List.map_nil]); first | done | rfl | (simp only [List.length_drop, List.length_take]; rfl)) ?_
                                  with_reducible refine (spec_Decimal.calls kj5 a2 t305 _ A25.out).mono ?_
                                  rintro e w' ⟨rfl, ⟨nd, rfl⟩⟩
                                  refine ⟨_, rfl, ?_⟩
                                  refine hK.out _ _ ⟨(blk_cell BK294.out 0).trans rfl, (blk_cell BK294.out 1).trans rfl, (blk_cell BK294.out 2).trans rfl, (blk_cell BK294.out 3).trans rfl, (blk_cell BK294.out 4).trans rfl, (blk_cell BK294.out 5).trans rfl⟩ (fun hHeld => ?_)
                                  clear hK K
                                  refine norm_ (a' := ?_) ?_ ?_
                                  rotate_left
                                  · show Act.put _ (some 58) _ = _
                                    simp only [Act.put, List.setIfInBounds_toArray, List.set_cons_zero, List.set_cons_succ, i64_w, i32_w]
                                    rfl
                                  refine pure_ (i := 6) (N := some 59) (v := ?_) (a' := ?_) #[true, true, true, true, true, true, true, false, true, false, false, false, true, false, false, false, false, false, false] rfl rfl (any_of HT_.out (by kernel_rfl)) (fun _ _ _ h => h) (Or.inl ⟨by rfl, ?_⟩) ?_ ?_
                                  rotate_left
                                  · intro w'
                                    go_simp
                                    with_reducible rfl
                                  rotate_left
                                  · simp only [Act.put, List.setIfInBounds_toArray, List.set_cons_zero, List.set_cons_succ, i64_w, i32_w]
                                    rfl
                                  refine pure_ (i := 7) (N := some 60) (v := ?_) (a' := ?_) #[true, true, true, true, true, true, true, true, true, false, false, false, true, false, false, false, false, false, false] rfl rfl (any_of HT_.out (by kernel_rfl)) (fun _ _ _ h => h) (Or.inl ⟨by rfl, ?_⟩) ?_ ?_
                                  rotate_left
                                  · intro w'
                                    go_simp
                                    with_reducible rfl
                                  rotate_left
                                  · simp only [Act.put, List.setIfInBounds_toArray, List.set_cons_zero, List.set_cons_succ, i64_w, i32_w]
                                    rfl
                                  refine one_ (i := 9) (N := some 62) #[true, true, true, true, true, true, true, true, true, true, false, false, true, false, false, false, false, false, false] rfl rfl (one_of HT_.out (by kernel_rfl)) (by decide) (fun K hK => ?_)
                                  refine goes_ Tryz.func24 (by kernel_rfl) rfl #[.int .i64 a3] (by rfl) rfl rfl (by (try simp only [List.map_toArray, List.map_cons, List.map_nil]); first | done | rfl | (simp only [List.length_drop, List.length_take]; rfl)) ?_
                                  with_reducible refine (spec_Decimal.calls kj5 a3 t306 _ A28.out).mono ?_
                                  rintro e w' ⟨rfl, ⟨nd, rfl⟩⟩
                                  refine ⟨_, rfl, ?_⟩
                                  refine hK.out _ _ ⟨(blk_cell BK294.out 0).trans rfl, (blk_cell BK294.out 1).trans rfl, (blk_cell BK294.out 2).trans rfl, (blk_cell BK294.out 3).trans rfl, (blk_cell BK294.out 4).trans rfl, (blk_cell BK294.out 5).trans rfl⟩ (fun hHeld => ?_)
                                  clear hK K
                                  refine norm_ (a' := ?_) ?_ ?_
                                  rotate_left
                                  · show Act.put _ (some 62) _ = _
                                    simp only [Act.put, List.setIfInBounds_toArray, List.set_cons_zero, List.set_cons_succ, i64_w, i32_w]
                                    rfl
                                  refine pure_ (i := 10) (N := some 63) (v := ?_) (a' := ?_) #[true, true, true, true, true, true, true, true, true, true, true, false, true, false, false, false, false, false, false] rfl rfl (any_of HT_.out (by kernel_rfl)) (fun _ _ _ h => h) (Or.inl ⟨by rfl, ?_⟩) ?_ ?_
                                  rotate_left
                                  · intro w'
                                    go_simp
                                    with_reducible rfl
                                  rotate_left
                                  · simp only [Act.put, List.setIfInBounds_toArray, List.set_cons_zero, List.set_cons_succ, i64_w, i32_w]
                                    rfl
                                  refine one_ (i := 11) (N := some 64) #[true, true, true, true, true, true, true, true, true, true, true, true, true, false, false, false, false, false, false] rfl rfl (one_of HT_.out (by kernel_rfl)) (by decide) (fun K hK => ?_)
                                  refine goes_ Tryz.func23 (by kernel_rfl) rfl #[.int .i64 a0, .string ((((t304 ++ (⟨#[45]⟩ : ByteArray)) ++ t305) ++ (⟨#[47]⟩ : ByteArray)) ++ t306)] (by rfl) rfl rfl (by (try simp only [List.map_toArray, List.map_cons, List.map_nil]); first | done | rfl | (simp only [List.length_drop, List.length_take]; rfl)) ?_
                                  with_reducible refine (laws_stars.calls kj5 a0 ((((t304 ++ (⟨#[45]⟩ : ByteArray)) ++ t305) ++ (⟨#[47]⟩ : ByteArray)) ++ t306) t307 _ A30.out).mono ?_
                                  rintro e w' ⟨rfl, ⟨nd, rfl⟩⟩
                                  refine ⟨_, rfl, ?_⟩
                                  refine hK.out _ _ ⟨(blk_cell BK294.out 0).trans rfl, (blk_cell BK294.out 1).trans rfl, (blk_cell BK294.out 2).trans rfl, (blk_cell BK294.out 3).trans rfl, (blk_cell BK294.out 4).trans rfl, (blk_cell BK294.out 5).trans rfl⟩ (fun hHeld => ?_)
                                  clear hK K
                                  refine norm_ (a' := ?_) ?_ ?_
                                  rotate_left
                                  · show Act.put _ (some 64) _ = _
                                    simp only [Act.put, List.setIfInBounds_toArray, List.set_cons_zero, List.set_cons_succ, i64_w, i32_w]
                                    rfl
                                  refine one_ (i := 13) (N := some 66) #[true, true, true, true, true, true, true, true, true, true, true, true, true, true, false, false, false, false, false] rfl rfl (one_of HT_.out (by kernel_rfl)) (by decide) (fun K hK => ?_)
                                  refine goes_ Tryz.func14 (by kernel_rfl) rfl #[.string t307, .agg #[.int .i64 a4_0, .int .i64 a4_1, .int .i64 a4_2, .int .i64 a4_3, .int .i64 a4_4, .int .i64 0]] (by rfl) rfl rfl (by (try simp only [List.map_toArray, List.map_cons, List.map_nil]); first | done | rfl | (simp only [List.length_drop, List.length_take]; rfl)) ?_
                                  with_reducible refine (impl_Due.calls t307 a4_0 a4_1 a4_2 a4_3 a4_4 0 t308 true _ A31.out).mono ?_
                                  rintro e w53 ⟨rfl, hb⟩
                                  refine ⟨_, rfl, ?_⟩
                                  have n0_ := Aside0.mk (blk_below (g := gb294) (o := .cells #[.int .i64 a4_0, .int .i64 a4_1, .int .i64 a4_2, .int .i64 a4_3, .int .i64 a4_4, .int .i64 0] 26 (0, 0)) (by (with_reducible repeat (first | refine blk_drewN ?_ _ | refine blk_drew ?_ | refine blk_alloc ?_ _)); exact BK294.out) hb)
                                  have n1_ := Aside0.mk (below_step (by repeat (first | (with_reducible first | exact HB.out | apply below_alloc | apply pw_below_drewN | apply below_drew1 | refine below_set ?_ GE294.out) | exact HB.out)) hb)
                                  clear BK294
                                  clear HB
                                  have BK294 := n0_
                                  have HB := n1_
                                  clear n0_ n1_
                                  (try clear hb)
                                  (try clear hb2)
                                  (try clear hk)
                                  (try clear hi)
                                  refine hK.out _ _ ⟨(blk_cell BK294.out 0).trans rfl, (blk_cell BK294.out 1).trans rfl, (blk_cell BK294.out 2).trans rfl, (blk_cell BK294.out 3).trans rfl, (blk_cell BK294.out 4).trans rfl, (blk_cell BK294.out 5).trans rfl⟩ (fun hHeld => ?_)
                                  clear hK K
                                  refine norm_ (a' := ?_) ?_ ?_
                                  rotate_left
                                  · show Act.put _ (some 66) _ = _
                                    simp only [Act.put, List.setIfInBounds_toArray, List.set_cons_zero, List.set_cons_succ, i64_w, i32_w]
                                    rfl
                                  refine pure_ (i := 14) (N := some 52) (v := ?_) (a' := ?_) #[true, true, true, true, true, true, true, true, true, true, true, true, true, true, true, false, false, false, false] rfl rfl (any_of HT_.out (by kernel_rfl)) (fun _ _ _ h => h) (Or.inl ⟨by rfl, ?_⟩) ?_ ?_
                                  rotate_left
                                  · intro w'
                                    go_simp
                                    with_reducible rfl
                                  rotate_left
                                  · simp only [Act.put, List.setIfInBounds_toArray, List.set_cons_zero, List.set_cons_succ, i64_w, i32_w]
                                    rfl
                                  refine pure_ (i := 15) (N := some 67) (v := ?_) (a' := ?_) #[true, true, true, true, true, true, true, true, true, true, true, true, true, true, true, true, false, false, false] rfl rfl (any_of HT_.out (by kernel_rfl)) (fun _ _ _ h => h) (Or.inl ⟨by rfl, ?_⟩) ?_ ?_
                                  rotate_left
                                  · intro w'
                                    go_simp
                                    with_reducible rfl
                                  rotate_left
                                  · simp only [Act.put, List.setIfInBounds_toArray, List.set_cons_zero, List.set_cons_succ, i64_w, i32_w]
                                    rfl
                                  refine pure_ (i := 16) (N := some 68) (v := ?_) (a' := ?_) #[true, true, true, true, true, true, true, true, true, true, true, true, true, true, true, true, true, false, false] rfl rfl (any_of HT_.out (by kernel_rfl)) (fun _ _ _ h => h) (Or.inl ⟨by rfl, ?_⟩) ?_ ?_
                                  rotate_left
                                  · intro w'
                                    go_simp
                                    with_reducible rfl
                                  rotate_left
                                  · simp only [Act.put, List.setIfInBounds_toArray, List.set_cons_zero, List.set_cons_succ, i64_w, i32_w]
                                    rfl
                                  refine pure_ (i := 17) (N := some 11) (v := ?_) (a' := ?_) #[true, true, true, true, true, true, true, true, true, true, true, true, true, true, true, true, true, true, false] rfl rfl (any_of HT_.out (by kernel_rfl)) (fun _ _ _ h => h) (Or.inl ⟨by rfl, ?_⟩) ?_ ?_
                                  rotate_left
                                  · intro w'
                                    go_simp
                                    with_reducible rfl
                                  rotate_left
                                  · simp only [Act.put, List.setIfInBounds_toArray, List.set_cons_zero, List.set_cons_succ, i64_w, i32_w]
                                    rfl
                                  refine pure_ (i := 18) (N := some 12) (v := ?_) (a' := ?_) #[true, true, true, true, true, true, true, true, true, true, true, true, true, true, true, true, true, true, true] rfl rfl (any_of HT_.out (by kernel_rfl)) (fun _ _ _ h => h) (Or.inl ⟨by rfl, ?_⟩) ?_ ?_
                                  rotate_left
                                  · intro w'
                                    go_simp
                                    with_reducible rfl
                                  rotate_left
                                  · simp only [Act.put, List.setIfInBounds_toArray, List.set_cons_zero, List.set_cons_succ, i64_w, i32_w]
                                    rfl
                                  refine done_ (done_of HT_.out (by kernel_rfl)) ?_
                                  have hcz54_0 : w53.cell? ⟨gb294, 0, none⟩ = some (.int .i64 a4_0) := (blk_cell BK294.out 0).trans rfl
                                  have hcz54_1 : w53.cell? ⟨gb294, 1, none⟩ = some (.int .i64 a4_1) := (blk_cell BK294.out 1).trans rfl
                                  have hcz54_2 : w53.cell? ⟨gb294, 2, none⟩ = some (.int .i64 a4_2) := (blk_cell BK294.out 2).trans rfl
                                  have hcz54_3 : w53.cell? ⟨gb294, 3, none⟩ = some (.int .i64 a4_3) := (blk_cell BK294.out 3).trans rfl
                                  have hcz54_4 : w53.cell? ⟨gb294, 4, none⟩ = some (.int .i64 a4_4) := (blk_cell BK294.out 4).trans rfl
                                  have hcz54_5 : w53.cell? ⟨gb294, 5, none⟩ = some (.int .i64 0) := (blk_cell BK294.out 5).trans rfl
                                  have hfz54_0 := blk_frozen BK294.out 0
                                  have hfz54_1 := blk_frozen BK294.out 1
                                  have hfz54_2 := blk_frozen BK294.out 2
                                  have hfz54_3 := blk_frozen BK294.out 3
                                  have hfz54_4 := blk_frozen BK294.out 4
                                  have hfz54_5 := blk_frozen BK294.out 5
                                  try go_wp2_with (first | ((with_reducible refine gate_callee (f := 19) rfl ?_); refine goesL_ (some 70) rfl rfl Tryz.func19 (by kernel_rfl) rfl #[.agg #[.int .i64 a4_0, .int .i64 a4_1, .int .i64 a4_2, .int .i64 a4_3, .int .i64 a4_4, .int .i64 0]] rfl (by (try simp only [List.map_toArray, List.map_cons, List.map_nil]); first | done | rfl | (simp only [List.length_drop, List.length_take]; rfl)) ?_; (with_reducible refine (laws_moment.calls a4_0 a4_1 a4_2 a4_3 a4_4 0 t310 t311 t312 t313 t314 t315 _ A32.out).mono ?_); rintro e w55 ⟨rfl, hb⟩; refine ⟨_, rfl, ?_⟩; have n0_ := Aside0.mk (blk_below (g := gb294) (o := .cells #[.int .i64 a4_0, .int .i64 a4_1, .int .i64 a4_2, .int .i64 a4_3, .int .i64 a4_4, .int .i64 0] 26 (0, 0)) (by (with_reducible repeat (first | refine blk_drewN ?_ _ | refine blk_drew ?_ | refine blk_alloc ?_ _)); exact BK294.out) hb); have n1_ := Aside0.mk (below_step (by repeat (first | (with_reducible first | exact HB.out | apply below_alloc | apply pw_below_drewN | apply below_drew1 | refine below_set ?_ GE294.out) | exact HB.out)) hb); clear BK294; clear HB; have BK294 := n0_; have HB := n1_; clear n0_ n1_; (try clear hb); (try clear hb2); (try clear hk); (try clear hi)) | ((with_reducible refine gate_callee (f := 25) rfl ?_); refine goesL_ (some 71) rfl rfl Tryz.func25 (by kernel_rfl) rfl #[.agg #[.int .i64 t310, .int .i64 t311, .int .i64 t312, .int .i64 t313, .int .i64 t314, .int .i64 t315]] rfl (by (try simp only [List.map_toArray, List.map_cons, List.map_nil]); first | done | rfl | (simp only [List.length_drop, List.length_take]; rfl)) ?_; (with_reducible refine (laws_numbers.calls kj5 t310 t311 t312 t313 t314 t315 t316 t317 t318 t319 t320 t321 _ A33.out).mono ?_); rintro e w56 ⟨rfl, hb⟩; refine ⟨_, rfl, ?_⟩; have n0_ := Aside0.mk (blk_below (g := gb294) (o := .cells #[.int .i64 a4_0, .int .i64 a4_1, .int .i64 a4_2, .int .i64 a4_3, .int .i64 a4_4, .int .i64 0] 26 (0, 0)) (by (with_reducible repeat (first | refine blk_drewN ?_ _ | refine blk_drew ?_ | refine blk_alloc ?_ _)); exact BK294.out) hb); have n1_ := Aside0.mk (below_step (by repeat (first | (with_reducible first | exact HB.out | apply below_alloc | apply pw_below_drewN | apply below_drew1 | refine below_set ?_ GE294.out) | exact HB.out)) hb); clear BK294; clear HB; have BK294 := n0_; have HB := n1_; clear n0_ n1_; (try clear hb); (try clear hb2); (try clear hk); (try clear hi); have hcz57_0 : w56.cell? ⟨gb294, 0, none⟩ = some (.int .i64 a4_0) := (blk_cell BK294.out 0).trans rfl; have hcz57_1 : w56.cell? ⟨gb294, 1, none⟩ = some (.int .i64 a4_1) := (blk_cell BK294.out 1).trans rfl; have hcz57_2 : w56.cell? ⟨gb294, 2, none⟩ = some (.int .i64 a4_2) := (blk_cell BK294.out 2).trans rfl; have hcz57_3 : w56.cell? ⟨gb294, 3, none⟩ = some (.int .i64 a4_3) := (blk_cell BK294.out 3).trans rfl; have hcz57_4 : w56.cell? ⟨gb294, 4, none⟩ = some (.int .i64 a4_4) := (blk_cell BK294.out 4).trans rfl; have hcz57_5 : w56.cell? ⟨gb294, 5, none⟩ = some (.int .i64 0) := (blk_cell BK294.out 5).trans rfl; have hfz57_0 := blk_frozen BK294.out 0; have hfz57_1 := blk_frozen BK294.out 1; have hfz57_2 := blk_frozen BK294.out 2; have hfz57_3 := blk_frozen BK294.out 3; have hfz57_4 := blk_frozen BK294.out 4; have hfz57_5 := blk_frozen BK294.out 5))
                                  go_ret
                                  exact ⟨by first | rfl | (simp [errW_none, errW_some] <;> rfl) | (simp [*, errW_none, errW_some] <;> rfl), by repeat (first | (with_reducible first | exact HB.out | apply below_alloc | apply pw_below_drewN | apply below_drew1 | refine below_set ?_ GE294.out) | exact HB.out)⟩
                              · rw [if_neg c41] at H
                                have c41b0 : (a0 == 1) = false := beq_eq_false_iff_ne.mpr c41
                                have c41b1 : (a0 != 1) = true := bne_iff_ne.mpr c41
                                by_cases c58 : a4_4 = 0
                                · rw [if_pos c58] at H
                                  have c58b0 : (a4_4 == 0) = true := beq_iff_eq.mpr c58
                                  have c58b1 : (a4_4 != 0) = false := bne_eq_false_iff_eq.mpr c58
                                  clear c58
                                  by_cases c59 : a0 ≤ 2
                                  · rw [if_pos c59] at H
                                    have c59b0 : decide (a0 ≤ 2) = true := decide_eq_true c59
                                    clear c59
                                    obtain rfl := Option.some.inj H
                                    have hcz60_0 : wc.cell? ⟨gb294, 0, none⟩ = some (.int .i64 a4_0) := (blk_cell BK294.out 0).trans rfl
                                    have hcz60_1 : wc.cell? ⟨gb294, 1, none⟩ = some (.int .i64 a4_1) := (blk_cell BK294.out 1).trans rfl
                                    have hcz60_2 : wc.cell? ⟨gb294, 2, none⟩ = some (.int .i64 a4_2) := (blk_cell BK294.out 2).trans rfl
                                    have hcz60_3 : wc.cell? ⟨gb294, 3, none⟩ = some (.int .i64 a4_3) := (blk_cell BK294.out 3).trans rfl
                                    have hcz60_4 : wc.cell? ⟨gb294, 4, none⟩ = some (.int .i64 a4_4) := (blk_cell BK294.out 4).trans rfl
                                    have hcz60_5 : wc.cell? ⟨gb294, 5, none⟩ = some (.int .i64 a4_5) := (blk_cell BK294.out 5).trans rfl
                                    have hfz60_0 := blk_frozen BK294.out 0
                                    have hfz60_1 := blk_frozen BK294.out 1
                                    have hfz60_2 := blk_frozen BK294.out 2
                                    have hfz60_3 := blk_frozen BK294.out 3
                                    have hfz60_4 := blk_frozen BK294.out 4
                                    have hfz60_5 := blk_frozen BK294.out 5
                                    try go_wp2
                                    have n0_ : Aside0 ((wc.setCell ⟨gb294, 5, none⟩ (.int .i64 0)).heap[gb294]? = some (.cells #[.int .i64 a4_0, .int .i64 a4_1, .int .i64 a4_2, .int .i64 a4_3, .int .i64 a4_4, .int .i64 0] 26 (0, 0))) := ⟨by (with_reducible repeat (first | refine blk_drewN ?_ _ | refine blk_drew ?_ | refine blk_alloc ?_ _)); refine blk_put (cs := #[.int .i64 a4_0, .int .i64 a4_1, .int .i64 a4_2, .int .i64 a4_3, .int .i64 a4_4, .int .i64 a4_5]) ?_ 5 _ rfl; (with_reducible repeat (first | refine blk_drewN ?_ _ | refine blk_drew ?_ | refine blk_alloc ?_ _)); exact BK294.out⟩
                                    have n1_ : Aside0 (Below w.heap.size w (wc.setCell ⟨gb294, 5, none⟩ (.int .i64 0))) := ⟨by repeat (first | (with_reducible first | exact HB.out | apply below_alloc | apply pw_below_drewN | apply below_drew1 | refine below_set ?_ GE294.out) | exact HB.out)⟩
                                    (try clear BK294)
                                    (try clear HB)
                                    generalize (wc.setCell ⟨gb294, 5, none⟩ (.int .i64 0)) = w61 at n0_ n1_ ⊢
                                    have BK294 := n0_
                                    have HB := n1_
                                    clear n0_ n1_
                                    have n0_ := Aside0.mk (blk_drew BK294.out)
                                    have n1_ := Aside0.mk (below_drew1 HB.out)
                                    clear BK294
                                    clear HB
                                    have BK294 := n0_
                                    have HB := n1_
                                    clear n0_ n1_
                                    refine start_ (n := 19) (S := fun w' => w'.cell? ⟨gb294, 0, none⟩ = some (.int .i64 a4_0) ∧ w'.cell? ⟨gb294, 1, none⟩ = some (.int .i64 a4_1) ∧ w'.cell? ⟨gb294, 2, none⟩ = some (.int .i64 a4_2) ∧ w'.cell? ⟨gb294, 3, none⟩ = some (.int .i64 a4_3) ∧ w'.cell? ⟨gb294, 4, none⟩ = some (.int .i64 a4_4) ∧ w'.cell? ⟨gb294, 5, none⟩ = some (.int .i64 0)) (ds := []) #[false, false, false, false, false, false, false, false, false, false, false, false, false, false, false, false, false, false, false] (by kernel_rfl) rfl rfl ⟨(blk_cell BK294.out 0).trans rfl, (blk_cell BK294.out 1).trans rfl, (blk_cell BK294.out 2).trans rfl, (blk_cell BK294.out 3).trans rfl, (blk_cell BK294.out 4).trans rfl, (blk_cell BK294.out 5).trans rfl⟩ (fun hHeld => ?_); refine with_tabW laws_FnStepRange.tab4 laws_FnStepRange.bits4 (fun HT_ HW_ => ?_)
                                    generalize w61.drew = w62 at BK294 HB hHeld ⊢
                                    refine pure_ (i := 0) (N := some 53) (v := ?_) (a' := ?_) #[true, false, false, false, false, false, false, false, false, false, false, false, false, false, false, false, false, false, false] rfl rfl (any_of HT_.out (by kernel_rfl)) (fun _ _ _ h => h) (Or.inl ⟨by rfl, ?_⟩) ?_ ?_
                                    rotate_left
                                    · intro w'
                                      go_simp
                                      with_reducible rfl
                                    rotate_left
                                    · simp only [Act.put, List.setIfInBounds_toArray, List.set_cons_zero, List.set_cons_succ, i64_w, i32_w]
                                      rfl
                                    refine pure_ (i := 1) (N := some 54) (v := ?_) (a' := ?_) #[true, true, false, false, false, false, false, false, false, false, false, false, false, false, false, false, false, false, false] rfl rfl (any_of HT_.out (by kernel_rfl)) (fun _ _ _ h => h) (Or.inl ⟨by rfl, ?_⟩) ?_ ?_
                                    rotate_left
                                    · intro w'
                                      go_simp
                                      with_reducible rfl
                                    rotate_left
                                    · simp only [Act.put, List.setIfInBounds_toArray, List.set_cons_zero, List.set_cons_succ, i64_w, i32_w]
                                      rfl
                                    refine pure_ (i := 4) (N := some 57) (v := ?_) (a' := ?_) #[true, true, false, false, true, false, false, false, false, false, false, false, false, false, false, false, false, false, false] rfl rfl (any_of HT_.out (by kernel_rfl)) (fun _ _ _ h => h) (Or.inl ⟨by rfl, ?_⟩) ?_ ?_
                                    rotate_left
                                    · intro w'
                                      go_simp
                                      with_reducible rfl
                                    rotate_left
                                    · simp only [Act.put, List.setIfInBounds_toArray, List.set_cons_zero, List.set_cons_succ, i64_w, i32_w]
                                      rfl
                                    refine pure_ (i := 8) (N := some 61) (v := ?_) (a' := ?_) #[true, true, false, false, true, false, false, false, true, false, false, false, false, false, false, false, false, false, false] rfl rfl (any_of HT_.out (by kernel_rfl)) (fun _ _ _ h => h) (Or.inl ⟨by rfl, ?_⟩) ?_ ?_
                                    rotate_left
                                    · intro w'
                                      go_simp
                                      with_reducible rfl
                                    rotate_left
                                    · simp only [Act.put, List.setIfInBounds_toArray, List.set_cons_zero, List.set_cons_succ, i64_w, i32_w]
                                      rfl
                                    refine take_ (i := 12) (N := some 65) (v := ?_) (a' := ?_) #[true, true, false, false, true, false, false, false, true, false, false, false, true, false, false, false, false, false, false] rfl rfl (take_ofW HT_.out HW_.out (by kernel_rfl)) (fun _ _ _ h => h) (Or.inl ⟨by rfl, ?_⟩) hHeld ?_ ?_
                                    rotate_left
                                    · rintro w' ⟨s0, s1, s2, s3, s4, s5⟩
                                      go_simp
                                      with_reducible rfl
                                    rotate_left
                                    · simp only [Act.put, List.setIfInBounds_toArray, List.set_cons_zero, List.set_cons_succ, i64_w, i32_w]
                                      rfl
                                    refine one_ (i := 2) (N := some 55) #[true, true, true, false, true, false, false, false, true, false, false, false, true, false, false, false, false, false, false] rfl rfl (one_of HT_.out (by kernel_rfl)) (by decide) (fun K hK => ?_)
                                    refine goes_ Tryz.func24 (by kernel_rfl) rfl #[.int .i64 a1] (by rfl) rfl rfl (by (try simp only [List.map_toArray, List.map_cons, List.map_nil]); first | done | rfl | (simp only [List.length_drop, List.length_take]; rfl)) ?_
                                    with_reducible refine (spec_Decimal.calls kj5 a1 t304 _ A23.out).mono ?_
                                    rintro e w' ⟨rfl, ⟨nd, rfl⟩⟩
                                    refine ⟨_, rfl, ?_⟩
                                    refine hK.out _ _ ⟨(blk_cell BK294.out 0).trans rfl, (blk_cell BK294.out 1).trans rfl, (blk_cell BK294.out 2).trans rfl, (blk_cell BK294.out 3).trans rfl, (blk_cell BK294.out 4).trans rfl, (blk_cell BK294.out 5).trans rfl⟩ (fun hHeld => ?_)
                                    clear hK K
                                    refine norm_ (a' := ?_) ?_ ?_
                                    rotate_left
                                    · show Act.put _ (some 55) _ = _
                                      simp only [Act.put, List.setIfInBounds_toArray, List.set_cons_zero, List.set_cons_succ, i64_w, i32_w]
                                      rfl
                                    refine pure_ (i := 3) (N := some 56) (v := ?_) (a' := ?_) #[true, true, true, true, true, false, false, false, true, false, false, false, true, false, false, false, false, false, false] rfl rfl (any_of HT_.out (by kernel_rfl)) (fun _ _ _ h => h) (Or.inl ⟨by rfl, ?_⟩) ?_ ?_
                                    rotate_left
                                    · intro w'
                                      go_simp
                                      with_reducible rfl
                                    rotate_left
                                    · simp only [Act.put, List.setIfInBounds_toArray, List.set_cons_zero, List.set_cons_succ, i64_w, i32_w]
                                      rfl
                                    refine one_ (i := 5) (N := some 58) #[true, true, true, true, true, true, false, false, true, false, false, false, true, false, false, false, false, false, false] rfl rfl (one_of HT_.out (by kernel_rfl)) (by decide) (fun K hK => ?_)
                                    refine goes_ Tryz.func24 (by kernel_rfl) rfl #[.int .i64 a2] (by rfl) rfl rfl (by (try simp only [List.map_toArray, List.map_cons, List.map_nil]); first | done | rfl | (simp only [List.length_drop, List.length_take]; rfl)) ?_
                                    with_reducible refine (spec_Decimal.calls kj5 a2 t305 _ A25.out).mono ?_
                                    rintro e w' ⟨rfl, ⟨nd, rfl⟩⟩
                                    refine ⟨_, rfl, ?_⟩
                                    refine hK.out _ _ ⟨(blk_cell BK294.out 0).trans rfl, (blk_cell BK294.out 1).trans rfl, (blk_cell BK294.out 2).trans rfl, (blk_cell BK294.out 3).trans rfl, (blk_cell BK294.out 4).trans rfl, (blk_cell BK294.out 5).trans rfl⟩ (fun hHeld => ?_)
                                    clear hK K
                                    refine norm_ (a' := ?_) ?_ ?_
                                    rotate_left
                                    · show Act.put _ (some 58) _ = _
                                      simp only [Act.put, List.setIfInBounds_toArray, List.set_cons_zero, List.set_cons_succ, i64_w, i32_w]
                                      rfl
                                    refine pure_ (i := 6) (N := some 59) (v := ?_) (a' := ?_) #[true, true, true, true, true, true, true, false, true, false, false, false, true, false, false, false, false, false, false] rfl rfl (any_of HT_.out (by kernel_rfl)) (fun _ _ _ h => h) (Or.inl ⟨by rfl, ?_⟩) ?_ ?_
                                    rotate_left
                                    · intro w'
                                      go_simp
                                      with_reducible rfl
                                    rotate_left
                                    · simp only [Act.put, List.setIfInBounds_toArray, List.set_cons_zero, List.set_cons_succ, i64_w, i32_w]
                                      rfl
                                    refine pure_ (i := 7) (N := some 60) (v := ?_) (a' := ?_) #[true, true, true, true, true, true, true, true, true, false, false, false, true, false, false, false, false, false, false] rfl rfl (any_of HT_.out (by kernel_rfl)) (fun _ _ _ h => h) (Or.inl ⟨by rfl, ?_⟩) ?_ ?_
                                    rotate_left
                                    · intro w'
                                      go_simp
                                      with_reducible rfl
                                    rotate_left
                                    · simp only [Act.put, List.setIfInBounds_toArray, List.set_cons_zero, List.set_cons_succ, i64_w, i32_w]
                                      rfl
                                    refine one_ (i := 9) (N := some 62) #[true, true, true, true, true, true, true, true, true, true, false, false, true, false, false, false, false, false, false] rfl rfl (one_of HT_.out (by kernel_rfl)) (by decide) (fun K hK => ?_)
                                    refine goes_ Tryz.func24 (by kernel_rfl) rfl #[.int .i64 a3] (by rfl) rfl rfl (by (try simp only [List.map_toArray, List.map_cons, List.map_nil]); first | done | rfl | (simp only [List.length_drop, List.length_take]; rfl)) ?_
                                    with_reducible refine (spec_Decimal.calls kj5 a3 t306 _ A28.out).mono ?_
                                    rintro e w' ⟨rfl, ⟨nd, rfl⟩⟩
                                    refine ⟨_, rfl, ?_⟩
                                    refine hK.out _ _ ⟨(blk_cell BK294.out 0).trans rfl, (blk_cell BK294.out 1).trans rfl, (blk_cell BK294.out 2).trans rfl, (blk_cell BK294.out 3).trans rfl, (blk_cell BK294.out 4).trans rfl, (blk_cell BK294.out 5).trans rfl⟩ (fun hHeld => ?_)
                                    clear hK K
                                    refine norm_ (a' := ?_) ?_ ?_
                                    rotate_left
                                    · show Act.put _ (some 62) _ = _
                                      simp only [Act.put, List.setIfInBounds_toArray, List.set_cons_zero, List.set_cons_succ, i64_w, i32_w]
                                      rfl
                                    refine pure_ (i := 10) (N := some 63) (v := ?_) (a' := ?_) #[true, true, true, true, true, true, true, true, true, true, true, false, true, false, false, false, false, false, false] rfl rfl (any_of HT_.out (by kernel_rfl)) (fun _ _ _ h => h) (Or.inl ⟨by rfl, ?_⟩) ?_ ?_
                                    rotate_left
                                    · intro w'
                                      go_simp
                                      with_reducible rfl
                                    rotate_left
                                    · simp only [Act.put, List.setIfInBounds_toArray, List.set_cons_zero, List.set_cons_succ, i64_w, i32_w]
                                      rfl
                                    refine one_ (i := 11) (N := some 64) #[true, true, true, true, true, true, true, true, true, true, true, true, true, false, false, false, false, false, false] rfl rfl (one_of HT_.out (by kernel_rfl)) (by decide) (fun K hK => ?_)
                                    refine goes_ Tryz.func23 (by kernel_rfl) rfl #[.int .i64 a0, .string ((((t304 ++ (⟨#[45]⟩ : ByteArray)) ++ t305) ++ (⟨#[47]⟩ : ByteArray)) ++ t306)] (by rfl) rfl rfl (by (try simp only [List.map_toArray, List.map_cons, List.map_nil]); first | done | rfl | (simp only [List.length_drop, List.length_take]; rfl)) ?_
                                    with_reducible refine (laws_stars.calls kj5 a0 ((((t304 ++ (⟨#[45]⟩ : ByteArray)) ++ t305) ++ (⟨#[47]⟩ : ByteArray)) ++ t306) t307 _ A30.out).mono ?_
                                    rintro e w' ⟨rfl, ⟨nd, rfl⟩⟩
                                    refine ⟨_, rfl, ?_⟩
                                    refine hK.out _ _ ⟨(blk_cell BK294.out 0).trans rfl, (blk_cell BK294.out 1).trans rfl, (blk_cell BK294.out 2).trans rfl, (blk_cell BK294.out 3).trans rfl, (blk_cell BK294.out 4).trans rfl, (blk_cell BK294.out 5).trans rfl⟩ (fun hHeld => ?_)
                                    clear hK K
                                    refine norm_ (a' := ?_) ?_ ?_
                                    rotate_left
                                    · show Act.put _ (some 64) _ = _
                                      simp only [Act.put, List.setIfInBounds_toArray, List.set_cons_zero, List.set_cons_succ, i64_w, i32_w]
                                      rfl
                                    refine one_ (i := 13) (N := some 66) #[true, true, true, true, true, true, true, true, true, true, true, true, true, true, false, false, false, false, false] rfl rfl (one_of HT_.out (by kernel_rfl)) (by decide) (fun K hK => ?_)
                                    refine goes_ Tryz.func14 (by kernel_rfl) rfl #[.string t307, .agg #[.int .i64 a4_0, .int .i64 a4_1, .int .i64 a4_2, .int .i64 a4_3, .int .i64 a4_4, .int .i64 0]] (by rfl) rfl rfl (by (try simp only [List.map_toArray, List.map_cons, List.map_nil]); first | done | rfl | (simp only [List.length_drop, List.length_take]; rfl)) ?_
                                    with_reducible refine (impl_Due.calls t307 a4_0 a4_1 a4_2 a4_3 a4_4 0 t308 true _ A31.out).mono ?_
                                    rintro e w63 ⟨rfl, hb⟩
                                    refine ⟨_, rfl, ?_⟩
                                    have n0_ := Aside0.mk (blk_below (g := gb294) (o := .cells #[.int .i64 a4_0, .int .i64 a4_1, .int .i64 a4_2, .int .i64 a4_3, .int .i64 a4_4, .int .i64 0] 26 (0, 0)) (by (with_reducible repeat (first | refine blk_drewN ?_ _ | refine blk_drew ?_ | refine blk_alloc ?_ _)); exact BK294.out) hb)
                                    have n1_ := Aside0.mk (below_step (by repeat (first | (with_reducible first | exact HB.out | apply below_alloc | apply pw_below_drewN | apply below_drew1 | refine below_set ?_ GE294.out) | exact HB.out)) hb)
                                    clear BK294
                                    clear HB
                                    have BK294 := n0_
                                    have HB := n1_
                                    clear n0_ n1_
                                    (try clear hb)
                                    (try clear hb2)
                                    (try clear hk)
                                    (try clear hi)
                                    refine hK.out _ _ ⟨(blk_cell BK294.out 0).trans rfl, (blk_cell BK294.out 1).trans rfl, (blk_cell BK294.out 2).trans rfl, (blk_cell BK294.out 3).trans rfl, (blk_cell BK294.out 4).trans rfl, (blk_cell BK294.out 5).trans rfl⟩ (fun hHeld => ?_)
                                    clear hK K
                                    refine norm_ (a' := ?_) ?_ ?_
                                    rotate_left
                                    · show Act.put _ (some 66) _ = _
                                      simp only [Act.put, List.setIfInBounds_toArray, List.set_cons_zero, List.set_cons_succ, i64_w, i32_w]
                                      rfl
                                    refine pure_ (i := 14) (N := some 52) (v := ?_) (a' := ?_) #[true, true, true, true, true, true, true, true, true, true, true, true, true, true, true, false, false, false, false] rfl rfl (any_of HT_.out (by kernel_rfl)) (fun _ _ _ h => h) (Or.inl ⟨by rfl, ?_⟩) ?_ ?_
                                    rotate_left
                                    · intro w'
                                      go_simp
                                      with_reducible rfl
                                    rotate_left
                                    · simp only [Act.put, List.setIfInBounds_toArray, List.set_cons_zero, List.set_cons_succ, i64_w, i32_w]
                                      rfl
                                    refine pure_ (i := 15) (N := some 67) (v := ?_) (a' := ?_) #[true, true, true, true, true, true, true, true, true, true, true, true, true, true, true, true, false, false, false] rfl rfl (any_of HT_.out (by kernel_rfl)) (fun _ _ _ h => h) (Or.inl ⟨by rfl, ?_⟩) ?_ ?_
                                    rotate_left
                                    · intro w'
                                      go_simp
                                      with_reducible rfl
                                    rotate_left
                                    · simp only [Act.put, List.setIfInBounds_toArray, List.set_cons_zero, List.set_cons_succ, i64_w, i32_w]
                                      rfl
                                    refine pure_ (i := 16) (N := some 68) (v := ?_) (a' := ?_) #[true, true, true, true, true, true, true, true, true, true, true, true, true, true, true, true, true, false, false] rfl rfl (any_of HT_.out (by kernel_rfl)) (fun _ _ _ h => h) (Or.inl ⟨by rfl, ?_⟩) ?_ ?_
                                    rotate_left
                                    · intro w'
                                      go_simp
                                      with_reducible rfl
                                    rotate_left
                                    · simp only [Act.put, List.setIfInBounds_toArray, List.set_cons_zero, List.set_cons_succ, i64_w, i32_w]
                                      rfl
                                    refine pure_ (i := 17) (N := some 11) (v := ?_) (a' := ?_) #[true, true, true, true, true, true, true, true, true, true, true, true, true, true, true, true, true, true, false] rfl rfl (any_of HT_.out (by kernel_rfl)) (fun _ _ _ h => h) (Or.inl ⟨by rfl, ?_⟩) ?_ ?_
                                    rotate_left
                                    · intro w'
                                      go_simp
                                      with_reducible rfl
                                    rotate_left
                                    · simp only [Act.put, List.setIfInBounds_toArray, List.set_cons_zero, List.set_cons_succ, i64_w, i32_w]
                                      rfl
                                    refine pure_ (i := 18) (N := some 12) (v := ?_) (a' := ?_) #[true, true, true, true, true, true, true, true, true, true, true, true, true, true, true, true, true, true, true] rfl rfl (any_of HT_.out (by kernel_rfl)) (fun _ _ _ h => h) (Or.inl ⟨by rfl, ?_⟩) ?_ ?_
                                    rotate_left
                                    · intro w'
                                      go_simp
                                      with_reducible rfl
                                    rotate_left
                                    · simp only [Act.put, List.setIfInBounds_toArray, List.set_cons_zero, List.set_cons_succ, i64_w, i32_w]
                                      rfl
                                    refine done_ (done_of HT_.out (by kernel_rfl)) ?_
                                    have hcz64_0 : w63.cell? ⟨gb294, 0, none⟩ = some (.int .i64 a4_0) := (blk_cell BK294.out 0).trans rfl
                                    have hcz64_1 : w63.cell? ⟨gb294, 1, none⟩ = some (.int .i64 a4_1) := (blk_cell BK294.out 1).trans rfl
                                    have hcz64_2 : w63.cell? ⟨gb294, 2, none⟩ = some (.int .i64 a4_2) := (blk_cell BK294.out 2).trans rfl
                                    have hcz64_3 : w63.cell? ⟨gb294, 3, none⟩ = some (.int .i64 a4_3) := (blk_cell BK294.out 3).trans rfl
                                    have hcz64_4 : w63.cell? ⟨gb294, 4, none⟩ = some (.int .i64 a4_4) := (blk_cell BK294.out 4).trans rfl
                                    have hcz64_5 : w63.cell? ⟨gb294, 5, none⟩ = some (.int .i64 0) := (blk_cell BK294.out 5).trans rfl
                                    have hfz64_0 := blk_frozen BK294.out 0
                                    have hfz64_1 := blk_frozen BK294.out 1
                                    have hfz64_2 := blk_frozen BK294.out 2
                                    have hfz64_3 := blk_frozen BK294.out 3
                                    have hfz64_4 := blk_frozen BK294.out 4
                                    have hfz64_5 := blk_frozen BK294.out 5
                                    try go_wp2_with (first | ((with_reducible refine gate_callee (f := 19) rfl ?_); refine goesL_ (some 70) rfl rfl Tryz.func19 (by kernel_rfl) rfl #[.agg #[.int .i64 a4_0, .int .i64 a4_1, .int .i64 a4_2, .int .i64 a4_3, .int .i64 a4_4, .int .i64 0]] rfl (by (try simp only [List.map_toArray, List.map_cons, List.map_nil]); first | done | rfl | (simp only [List.length_drop, List.length_take]; rfl)) ?_; (with_reducible refine (laws_moment.calls a4_0 a4_1 a4_2 a4_3 a4_4 0 t310 t311 t312 t313 t314 t315 _ A32.out).mono ?_); rintro e w65 ⟨rfl, hb⟩; refine ⟨_, rfl, ?_⟩; have n0_ := Aside0.mk (blk_below (g := gb294) (o := .cells #[.int .i64 a4_0, .int .i64 a4_1, .int .i64 a4_2, .int .i64 a4_3, .int .i64 a4_4, .int .i64 0] 26 (0, 0)) (by (with_reducible repeat (first | refine blk_drewN ?_ _ | refine blk_drew ?_ | refine blk_alloc ?_ _)); exact BK294.out) hb); have n1_ := Aside0.mk (below_step (by repeat (first | (with_reducible first | exact HB.out | apply below_alloc | apply pw_below_drewN | apply below_drew1 | refine below_set ?_ GE294.out) | exact HB.out)) hb); clear BK294; clear HB; have BK294 := n0_; have HB := n1_; clear n0_ n1_; (try clear hb); (try clear hb2); (try clear hk); (try clear hi)) | ((with_reducible refine gate_callee (f := 25) rfl ?_); refine goesL_ (some 71) rfl rfl Tryz.func25 (by kernel_rfl) rfl #[.agg #[.int .i64 t310, .int .i64 t311, .int .i64 t312, .int .i64 t313, .int .i64 t314, .int .i64 t315]] rfl (by (try simp only [List.map_toArray, List.map_cons, List.map_nil]); first | done | rfl | (simp only [List.length_drop, List.length_take]; rfl)) ?_; (with_reducible refine (laws_numbers.calls kj5 t310 t311 t312 t313 t314 t315 t316 t317 t318 t319 t320 t321 _ A33.out).mono ?_); rintro e w66 ⟨rfl, hb⟩; refine ⟨_, rfl, ?_⟩; have n0_ := Aside0.mk (blk_below (g := gb294) (o := .cells #[.int .i64 a4_0, .int .i64 a4_1, .int .i64 a4_2, .int .i64 a4_3, .int .i64 a4_4, .int .i64 0] 26 (0, 0)) (by (with_reducible repeat (first | refine blk_drewN ?_ _ | refine blk_drew ?_ | refine blk_alloc ?_ _)); exact BK294.out) hb); have n1_ := Aside0.mk (below_step (by repeat (first | (with_reducible first | exact HB.out | apply below_alloc | apply pw_below_drewN | apply below_drew1 | refine below_set ?_ GE294.out) | exact HB.out)) hb); clear BK294; clear HB; have BK294 := n0_; have HB := n1_; clear n0_ n1_; (try clear hb); (try clear hb2); (try clear hk); (try clear hi); have hcz67_0 : w66.cell? ⟨gb294, 0, none⟩ = some (.int .i64 a4_0) := (blk_cell BK294.out 0).trans rfl; have hcz67_1 : w66.cell? ⟨gb294, 1, none⟩ = some (.int .i64 a4_1) := (blk_cell BK294.out 1).trans rfl; have hcz67_2 : w66.cell? ⟨gb294, 2, none⟩ = some (.int .i64 a4_2) := (blk_cell BK294.out 2).trans rfl; have hcz67_3 : w66.cell? ⟨gb294, 3, none⟩ = some (.int .i64 a4_3) := (blk_cell BK294.out 3).trans rfl; have hcz67_4 : w66.cell? ⟨gb294, 4, none⟩ = some (.int .i64 a4_4) := (blk_cell BK294.out 4).trans rfl; have hcz67_5 : w66.cell? ⟨gb294, 5, none⟩ = some (.int .i64 0) := (blk_cell BK294.out 5).trans rfl; have hfz67_0 := blk_frozen BK294.out 0; have hfz67_1 := blk_frozen BK294.out 1; have hfz67_2 := blk_frozen BK294.out 2; have hfz67_3 := blk_frozen BK294.out 3; have hfz67_4 := blk_frozen BK294.out 4; have hfz67_5 := blk_frozen BK294.out 5))
                                    go_ret
                                    exact ⟨by first | rfl | (simp [errW_none, errW_some] <;> rfl) | (simp [*, errW_none, errW_some] <;> rfl), by repeat (first | (with_reducible first | exact HB.out | apply below_alloc | apply pw_below_drewN | apply below_drew1 | refine below_set ?_ GE294.out) | exact HB.out)⟩
                                  · rw [if_neg c59] at H
                                    have c59b0 : decide (a0 ≤ 2) = false := decide_eq_false c59
                                    clear c59
                                    obtain rfl := Option.some.inj H
                                    have hcz68_0 : wc.cell? ⟨gb294, 0, none⟩ = some (.int .i64 a4_0) := (blk_cell BK294.out 0).trans rfl
                                    have hcz68_1 : wc.cell? ⟨gb294, 1, none⟩ = some (.int .i64 a4_1) := (blk_cell BK294.out 1).trans rfl
                                    have hcz68_2 : wc.cell? ⟨gb294, 2, none⟩ = some (.int .i64 a4_2) := (blk_cell BK294.out 2).trans rfl
                                    have hcz68_3 : wc.cell? ⟨gb294, 3, none⟩ = some (.int .i64 a4_3) := (blk_cell BK294.out 3).trans rfl
                                    have hcz68_4 : wc.cell? ⟨gb294, 4, none⟩ = some (.int .i64 a4_4) := (blk_cell BK294.out 4).trans rfl
                                    have hcz68_5 : wc.cell? ⟨gb294, 5, none⟩ = some (.int .i64 a4_5) := (blk_cell BK294.out 5).trans rfl
                                    have hfz68_0 := blk_frozen BK294.out 0
                                    have hfz68_1 := blk_frozen BK294.out 1
                                    have hfz68_2 := blk_frozen BK294.out 2
                                    have hfz68_3 := blk_frozen BK294.out 3
                                    have hfz68_4 := blk_frozen BK294.out 4
                                    have hfz68_5 := blk_frozen BK294.out 5
                                    try go_wp2
                                    have n0_ : Aside0 ((wc.setCell ⟨gb294, 5, none⟩ (.int .i64 0)).heap[gb294]? = some (.cells #[.int .i64 a4_0, .int .i64 a4_1, .int .i64 a4_2, .int .i64 a4_3, .int .i64 a4_4, .int .i64 0] 26 (0, 0))) := ⟨by (with_reducible repeat (first | refine blk_drewN ?_ _ | refine blk_drew ?_ | refine blk_alloc ?_ _)); refine blk_put (cs := #[.int .i64 a4_0, .int .i64 a4_1, .int .i64 a4_2, .int .i64 a4_3, .int .i64 a4_4, .int .i64 a4_5]) ?_ 5 _ rfl; (with_reducible repeat (first | refine blk_drewN ?_ _ | refine blk_drew ?_ | refine blk_alloc ?_ _)); exact BK294.out⟩
                                    have n1_ : Aside0 (Below w.heap.size w (wc.setCell ⟨gb294, 5, none⟩ (.int .i64 0))) := ⟨by repeat (first | (with_reducible first | exact HB.out | apply below_alloc | apply pw_below_drewN | apply below_drew1 | refine below_set ?_ GE294.out) | exact HB.out)⟩
                                    (try clear BK294)
                                    (try clear HB)
                                    generalize (wc.setCell ⟨gb294, 5, none⟩ (.int .i64 0)) = w69 at n0_ n1_ ⊢
                                    have BK294 := n0_
                                    have HB := n1_
                                    clear n0_ n1_
                                    have n0_ := Aside0.mk (blk_drew BK294.out)
                                    have n1_ := Aside0.mk (below_drew1 HB.out)
                                    clear BK294
                                    clear HB
                                    have BK294 := n0_
                                    have HB := n1_
                                    clear n0_ n1_
                                    refine start_ (n := 19) (S := fun w' => w'.cell? ⟨gb294, 0, none⟩ = some (.int .i64 a4_0) ∧ w'.cell? ⟨gb294, 1, none⟩ = some (.int .i64 a4_1) ∧ w'.cell? ⟨gb294, 2, none⟩ = some (.int .i64 a4_2) ∧ w'.cell? ⟨gb294, 3, none⟩ = some (.int .i64 a4_3) ∧ w'.cell? ⟨gb294, 4, none⟩ = some (.int .i64 a4_4) ∧ w'.cell? ⟨gb294, 5, none⟩ = some (.int .i64 0)) (ds := []) #[false, false, false, false, false, false, false, false, false, false, false, false, false, false, false, false, false, false, false] (by kernel_rfl) rfl rfl ⟨(blk_cell BK294.out 0).trans rfl, (blk_cell BK294.out 1).trans rfl, (blk_cell BK294.out 2).trans rfl, (blk_cell BK294.out 3).trans rfl, (blk_cell BK294.out 4).trans rfl, (blk_cell BK294.out 5).trans rfl⟩ (fun hHeld => ?_); refine with_tabW laws_FnStepRange.tab4 laws_FnStepRange.bits4 (fun HT_ HW_ => ?_)
                                    generalize w69.drew = w70 at BK294 HB hHeld ⊢
                                    refine pure_ (i := 0) (N := some 53) (v := ?_) (a' := ?_) #[true, false, false, false, false, false, false, false, false, false, false, false, false, false, false, false, false, false, false] rfl rfl (any_of HT_.out (by kernel_rfl)) (fun _ _ _ h => h) (Or.inl ⟨by rfl, ?_⟩) ?_ ?_
                                    rotate_left
                                    · intro w'
                                      go_simp
                                      with_reducible rfl
                                    rotate_left
                                    · simp only [Act.put, List.setIfInBounds_toArray, List.set_cons_zero, List.set_cons_succ, i64_w, i32_w]
                                      rfl
                                    refine pure_ (i := 1) (N := some 54) (v := ?_) (a' := ?_) #[true, true, false, false, false, false, false, false, false, false, false, false, false, false, false, false, false, false, false] rfl rfl (any_of HT_.out (by kernel_rfl)) (fun _ _ _ h => h) (Or.inl ⟨by rfl, ?_⟩) ?_ ?_
                                    rotate_left
                                    · intro w'
                                      go_simp
                                      with_reducible rfl
                                    rotate_left
                                    · simp only [Act.put, List.setIfInBounds_toArray, List.set_cons_zero, List.set_cons_succ, i64_w, i32_w]
                                      rfl
                                    refine pure_ (i := 4) (N := some 57) (v := ?_) (a' := ?_) #[true, true, false, false, true, false, false, false, false, false, false, false, false, false, false, false, false, false, false] rfl rfl (any_of HT_.out (by kernel_rfl)) (fun _ _ _ h => h) (Or.inl ⟨by rfl, ?_⟩) ?_ ?_
                                    rotate_left
                                    · intro w'
                                      go_simp
                                      with_reducible rfl
                                    rotate_left
                                    · simp only [Act.put, List.setIfInBounds_toArray, List.set_cons_zero, List.set_cons_succ, i64_w, i32_w]
                                      rfl
                                    refine pure_ (i := 8) (N := some 61) (v := ?_) (a' := ?_) #[true, true, false, false, true, false, false, false, true, false, false, false, false, false, false, false, false, false, false] rfl rfl (any_of HT_.out (by kernel_rfl)) (fun _ _ _ h => h) (Or.inl ⟨by rfl, ?_⟩) ?_ ?_
                                    rotate_left
                                    · intro w'
                                      go_simp
                                      with_reducible rfl
                                    rotate_left
                                    · simp only [Act.put, List.setIfInBounds_toArray, List.set_cons_zero, List.set_cons_succ, i64_w, i32_w]
                                      rfl
                                    refine take_ (i := 12) (N := some 65) (v := ?_) (a' := ?_) #[true, true, false, false, true, false, false, false, true, false, false, false, true, false, false, false, false, false, false] rfl rfl (take_ofW HT_.out HW_.out (by kernel_rfl)) (fun _ _ _ h => h) (Or.inl ⟨by rfl, ?_⟩) hHeld ?_ ?_
                                    rotate_left
                                    · rintro w' ⟨s0, s1, s2, s3, s4, s5⟩
                                      go_simp
                                      with_reducible rfl
                                    rotate_left
                                    · simp only [Act.put, List.setIfInBounds_toArray, List.set_cons_zero, List.set_cons_succ, i64_w, i32_w]
                                      rfl
                                    refine one_ (i := 2) (N := some 55) #[true, true, true, false, true, false, false, false, true, false, false, false, true, false, false, false, false, false, false] rfl rfl (one_of HT_.out (by kernel_rfl)) (by decide) (fun K hK => ?_)
                                    refine goes_ Tryz.func24 (by kernel_rfl) rfl #[.int .i64 a1] (by rfl) rfl rfl (by (try simp only [List.map_toArray, List.map_cons, List.map_nil]); first | done | rfl | (simp only [List.length_drop, List.length_take]; rfl)) ?_
                                    with_reducible refine (spec_Decimal.calls kj5 a1 t304 _ A23.out).mono ?_
                                    rintro e w' ⟨rfl, ⟨nd, rfl⟩⟩
                                    refine ⟨_, rfl, ?_⟩
                                    refine hK.out _ _ ⟨(blk_cell BK294.out 0).trans rfl, (blk_cell BK294.out 1).trans rfl, (blk_cell BK294.out 2).trans rfl, (blk_cell BK294.out 3).trans rfl, (blk_cell BK294.out 4).trans rfl, (blk_cell BK294.out 5).trans rfl⟩ (fun hHeld => ?_)
                                    clear hK K
                                    refine norm_ (a' := ?_) ?_ ?_
                                    rotate_left
                                    · show Act.put _ (some 55) _ = _
                                      simp only [Act.put, List.setIfInBounds_toArray, List.set_cons_zero, List.set_cons_succ, i64_w, i32_w]
                                      rfl
                                    refine pure_ (i := 3) (N := some 56) (v := ?_) (a' := ?_) #[true, true, true, true, true, false, false, false, true, false, false, false, true, false, false, false, false, false, false] rfl rfl (any_of HT_.out (by kernel_rfl)) (fun _ _ _ h => h) (Or.inl ⟨by rfl, ?_⟩) ?_ ?_
                                    rotate_left
                                    · intro w'
                                      go_simp
                                      with_reducible rfl
                                    rotate_left
                                    · simp only [Act.put, List.setIfInBounds_toArray, List.set_cons_zero, List.set_cons_succ, i64_w, i32_w]
                                      rfl
                                    refine one_ (i := 5) (N := some 58) #[true, true, true, true, true, true, false, false, true, false, false, false, true, false, false, false, false, false, false] rfl rfl (one_of HT_.out (by kernel_rfl)) (by decide) (fun K hK => ?_)
                                    refine goes_ Tryz.func24 (by kernel_rfl) rfl #[.int .i64 a2] (by rfl) rfl rfl (by (try simp only [List.map_toArray, List.map_cons, List.map_nil]); first | done | rfl | (simp only [List.length_drop, List.length_take]; rfl)) ?_
                                    with_reducible refine (spec_Decimal.calls kj5 a2 t305 _ A25.out).mono ?_
                                    rintro e w' ⟨rfl, ⟨nd, rfl⟩⟩
                                    refine ⟨_, rfl, ?_⟩
                                    refine hK.out _ _ ⟨(blk_cell BK294.out 0).trans rfl, (blk_cell BK294.out 1).trans rfl, (blk_cell BK294.out 2).trans rfl, (blk_cell BK294.out 3).trans rfl, (blk_cell BK294.out 4).trans rfl, (blk_cell BK294.out 5).trans rfl⟩ (fun hHeld => ?_)
                                    clear hK K
                                    refine norm_ (a' := ?_) ?_ ?_
                                    rotate_left
                                    · show Act.put _ (some 58) _ = _
                                      simp only [Act.put, List.setIfInBounds_toArray, List.set_cons_zero, List.set_cons_succ, i64_w, i32_w]
                                      rfl
                                    refine pure_ (i := 6) (N := some 59) (v := ?_) (a' := ?_) #[true, true, true, true, true, true, true, false, true, false, false, false, true, false, false, false, false, false, false] rfl rfl (any_of HT_.out (by kernel_rfl)) (fun _ _ _ h => h) (Or.inl ⟨by rfl, ?_⟩) ?_ ?_
                                    rotate_left
                                    · intro w'
                                      go_simp
                                      with_reducible rfl
                                    rotate_left
                                    · simp only [Act.put, List.setIfInBounds_toArray, List.set_cons_zero, List.set_cons_succ, i64_w, i32_w]
                                      rfl
                                    refine pure_ (i := 7) (N := some 60) (v := ?_) (a' := ?_) #[true, true, true, true, true, true, true, true, true, false, false, false, true, false, false, false, false, false, false] rfl rfl (any_of HT_.out (by kernel_rfl)) (fun _ _ _ h => h) (Or.inl ⟨by rfl, ?_⟩) ?_ ?_
                                    rotate_left
                                    · intro w'
                                      go_simp
                                      with_reducible rfl
                                    rotate_left
                                    · simp only [Act.put, List.setIfInBounds_toArray, List.set_cons_zero, List.set_cons_succ, i64_w, i32_w]
                                      rfl
                                    refine one_ (i := 9) (N := some 62) #[true, true, true, true, true, true, true, true, true, true, false, false, true, false, false, false, false, false, false] rfl rfl (one_of HT_.out (by kernel_rfl)) (by decide) (fun K hK => ?_)
                                    refine goes_ Tryz.func24 (by kernel_rfl) rfl #[.int .i64 a3] (by rfl) rfl rfl (by (try simp only [List.map_toArray, List.map_cons, List.map_nil]); first | done | rfl | (simp only [List.length_drop, List.length_take]; rfl)) ?_
                                    with_reducible refine (spec_Decimal.calls kj5 a3 t306 _ A28.out).mono ?_
                                    rintro e w' ⟨rfl, ⟨nd, rfl⟩⟩
                                    refine ⟨_, rfl, ?_⟩
                                    refine hK.out _ _ ⟨(blk_cell BK294.out 0).trans rfl, (blk_cell BK294.out 1).trans rfl, (blk_cell BK294.out 2).trans rfl, (blk_cell BK294.out 3).trans rfl, (blk_cell BK294.out 4).trans rfl, (blk_cell BK294.out 5).trans rfl⟩ (fun hHeld => ?_)
                                    clear hK K
                                    refine norm_ (a' := ?_) ?_ ?_
                                    rotate_left
                                    · show Act.put _ (some 62) _ = _
                                      simp only [Act.put, List.setIfInBounds_toArray, List.set_cons_zero, List.set_cons_succ, i64_w, i32_w]
                                      rfl
                                    refine pure_ (i := 10) (N := some 63) (v := ?_) (a' := ?_) #[true, true, true, true, true, true, true, true, true, true, true, false, true, false, false, false, false, false, false] rfl rfl (any_of HT_.out (by kernel_rfl)) (fun _ _ _ h => h) (Or.inl ⟨by rfl, ?_⟩) ?_ ?_
                                    rotate_left
                                    · intro w'
                                      go_simp
                                      with_reducible rfl
                                    rotate_left
                                    · simp only [Act.put, List.setIfInBounds_toArray, List.set_cons_zero, List.set_cons_succ, i64_w, i32_w]
                                      rfl
                                    refine one_ (i := 11) (N := some 64) #[true, true, true, true, true, true, true, true, true, true, true, true, true, false, false, false, false, false, false] rfl rfl (one_of HT_.out (by kernel_rfl)) (by decide) (fun K hK => ?_)
                                    refine goes_ Tryz.func23 (by kernel_rfl) rfl #[.int .i64 a0, .string ((((t304 ++ (⟨#[45]⟩ : ByteArray)) ++ t305) ++ (⟨#[47]⟩ : ByteArray)) ++ t306)] (by rfl) rfl rfl (by (try simp only [List.map_toArray, List.map_cons, List.map_nil]); first | done | rfl | (simp only [List.length_drop, List.length_take]; rfl)) ?_
                                    with_reducible refine (laws_stars.calls kj5 a0 ((((t304 ++ (⟨#[45]⟩ : ByteArray)) ++ t305) ++ (⟨#[47]⟩ : ByteArray)) ++ t306) t307 _ A30.out).mono ?_
                                    rintro e w' ⟨rfl, ⟨nd, rfl⟩⟩
                                    refine ⟨_, rfl, ?_⟩
                                    refine hK.out _ _ ⟨(blk_cell BK294.out 0).trans rfl, (blk_cell BK294.out 1).trans rfl, (blk_cell BK294.out 2).trans rfl, (blk_cell BK294.out 3).trans rfl, (blk_cell BK294.out 4).trans rfl, (blk_cell BK294.out 5).trans rfl⟩ (fun hHeld => ?_)
                                    clear hK K
                                    refine norm_ (a' := ?_) ?_ ?_
                                    rotate_left
                                    · show Act.put _ (some 64) _ = _
                                      simp only [Act.put, List.setIfInBounds_toArray, List.set_cons_zero, List.set_cons_succ, i64_w, i32_w]
                                      rfl
                                    refine one_ (i := 13) (N := some 66) #[true, true, true, true, true, true, true, true, true, true, true, true, true, true, false, false, false, false, false] rfl rfl (one_of HT_.out (by kernel_rfl)) (by decide) (fun K hK => ?_)
                                    refine goes_ Tryz.func14 (by kernel_rfl) rfl #[.string t307, .agg #[.int .i64 a4_0, .int .i64 a4_1, .int .i64 a4_2, .int .i64 a4_3, .int .i64 a4_4, .int .i64 0]] (by rfl) rfl rfl (by (try simp only [List.map_toArray, List.map_cons, List.map_nil]); first | done | rfl | (simp only [List.length_drop, List.length_take]; rfl)) ?_
                                    with_reducible refine (impl_Due.calls t307 a4_0 a4_1 a4_2 a4_3 a4_4 0 t308 true _ A31.out).mono ?_
                                    rintro e w71 ⟨rfl, hb⟩
                                    refine ⟨_, rfl, ?_⟩
                                    have n0_ := Aside0.mk (blk_below (g := gb294) (o := .cells #[.int .i64 a4_0, .int .i64 a4_1, .int .i64 a4_2, .int .i64 a4_3, .int .i64 a4_4, .int .i64 0] 26 (0, 0)) (by (with_reducible repeat (first | refine blk_drewN ?_ _ | refine blk_drew ?_ | refine blk_alloc ?_ _)); exact BK294.out) hb)
                                    have n1_ := Aside0.mk (below_step (by repeat (first | (with_reducible first | exact HB.out | apply below_alloc | apply pw_below_drewN | apply below_drew1 | refine below_set ?_ GE294.out) | exact HB.out)) hb)
                                    clear BK294
                                    clear HB
                                    have BK294 := n0_
                                    have HB := n1_
                                    clear n0_ n1_
                                    (try clear hb)
                                    (try clear hb2)
                                    (try clear hk)
                                    (try clear hi)
                                    refine hK.out _ _ ⟨(blk_cell BK294.out 0).trans rfl, (blk_cell BK294.out 1).trans rfl, (blk_cell BK294.out 2).trans rfl, (blk_cell BK294.out 3).trans rfl, (blk_cell BK294.out 4).trans rfl, (blk_cell BK294.out 5).trans rfl⟩ (fun hHeld => ?_)
                                    clear hK K
                                    refine norm_ (a' := ?_) ?_ ?_
                                    rotate_left
                                    · show Act.put _ (some 66) _ = _
                                      simp only [Act.put, List.setIfInBounds_toArray, List.set_cons_zero, List.set_cons_succ, i64_w, i32_w]
                                      rfl
                                    refine pure_ (i := 14) (N := some 52) (v := ?_) (a' := ?_) #[true, true, true, true, true, true, true, true, true, true, true, true, true, true, true, false, false, false, false] rfl rfl (any_of HT_.out (by kernel_rfl)) (fun _ _ _ h => h) (Or.inl ⟨by rfl, ?_⟩) ?_ ?_
                                    rotate_left
                                    · intro w'
                                      go_simp
                                      with_reducible rfl
                                    rotate_left
                                    · simp only [Act.put, List.setIfInBounds_toArray, List.set_cons_zero, List.set_cons_succ, i64_w, i32_w]
                                      rfl
                                    refine pure_ (i := 15) (N := some 67) (v := ?_) (a' := ?_) #[true, true, true, true, true, true, true, true, true, true, true, true, true, true, true, true, false, false, false] rfl rfl (any_of HT_.out (by kernel_rfl)) (fun _ _ _ h => h) (Or.inl ⟨by rfl, ?_⟩) ?_ ?_
                                    rotate_left
                                    · intro w'
                                      go_simp
                                      with_reducible rfl
                                    rotate_left
                                    · simp only [Act.put, List.setIfInBounds_toArray, List.set_cons_zero, List.set_cons_succ, i64_w, i32_w]
                                      rfl
                                    refine pure_ (i := 16) (N := some 68) (v := ?_) (a' := ?_) #[true, true, true, true, true, true, true, true, true, true, true, true, true, true, true, true, true, false, false] rfl rfl (any_of HT_.out (by kernel_rfl)) (fun _ _ _ h => h) (Or.inl ⟨by rfl, ?_⟩) ?_ ?_
                                    rotate_left
                                    · intro w'
                                      go_simp
                                      with_reducible rfl
                                    rotate_left
                                    · simp only [Act.put, List.setIfInBounds_toArray, List.set_cons_zero, List.set_cons_succ, i64_w, i32_w]
                                      rfl
                                    refine pure_ (i := 17) (N := some 11) (v := ?_) (a' := ?_) #[true, true, true, true, true, true, true, true, true, true, true, true, true, true, true, true, true, true, false] rfl rfl (any_of HT_.out (by kernel_rfl)) (fun _ _ _ h => h) (Or.inl ⟨by rfl, ?_⟩) ?_ ?_
                                    rotate_left
                                    · intro w'
                                      go_simp
                                      with_reducible rfl
                                    rotate_left
                                    · simp only [Act.put, List.setIfInBounds_toArray, List.set_cons_zero, List.set_cons_succ, i64_w, i32_w]
                                      rfl
                                    refine pure_ (i := 18) (N := some 12) (v := ?_) (a' := ?_) #[true, true, true, true, true, true, true, true, true, true, true, true, true, true, true, true, true, true, true] rfl rfl (any_of HT_.out (by kernel_rfl)) (fun _ _ _ h => h) (Or.inl ⟨by rfl, ?_⟩) ?_ ?_
                                    rotate_left
                                    · intro w'
                                      go_simp
                                      with_reducible rfl
                                    rotate_left
                                    · simp only [Act.put, List.setIfInBounds_toArray, List.set_cons_zero, List.set_cons_succ, i64_w, i32_w]
                                      rfl
                                    refine done_ (done_of HT_.out (by kernel_rfl)) ?_
                                    have hcz72_0 : w71.cell? ⟨gb294, 0, none⟩ = some (.int .i64 a4_0) := (blk_cell BK294.out 0).trans rfl
                                    have hcz72_1 : w71.cell? ⟨gb294, 1, none⟩ = some (.int .i64 a4_1) := (blk_cell BK294.out 1).trans rfl
                                    have hcz72_2 : w71.cell? ⟨gb294, 2, none⟩ = some (.int .i64 a4_2) := (blk_cell BK294.out 2).trans rfl
                                    have hcz72_3 : w71.cell? ⟨gb294, 3, none⟩ = some (.int .i64 a4_3) := (blk_cell BK294.out 3).trans rfl
                                    have hcz72_4 : w71.cell? ⟨gb294, 4, none⟩ = some (.int .i64 a4_4) := (blk_cell BK294.out 4).trans rfl
                                    have hcz72_5 : w71.cell? ⟨gb294, 5, none⟩ = some (.int .i64 0) := (blk_cell BK294.out 5).trans rfl
                                    have hfz72_0 := blk_frozen BK294.out 0
                                    have hfz72_1 := blk_frozen BK294.out 1
                                    have hfz72_2 := blk_frozen BK294.out 2
                                    have hfz72_3 := blk_frozen BK294.out 3
                                    have hfz72_4 := blk_frozen BK294.out 4
                                    have hfz72_5 := blk_frozen BK294.out 5
                                    try go_wp2_with (first | ((with_reducible refine gate_callee (f := 19) rfl ?_); refine goesL_ (some 70) rfl rfl Tryz.func19 (by kernel_rfl) rfl #[.agg #[.int .i64 a4_0, .int .i64 a4_1, .int .i64 a4_2, .int .i64 a4_3, .int .i64 a4_4, .int .i64 0]] rfl (by (try simp only [List.map_toArray, List.map_cons, List.map_nil]); first | done | rfl | (simp only [List.length_drop, List.length_take]; rfl)) ?_; (with_reducible refine (laws_moment.calls a4_0 a4_1 a4_2 a4_3 a4_4 0 t310 t311 t312 t313 t314 t315 _ A32.out).mono ?_); rintro e w73 ⟨rfl, hb⟩; refine ⟨_, rfl, ?_⟩; have n0_ := Aside0.mk (blk_below (g := gb294) (o := .cells #[.int .i64 a4_0, .int .i64 a4_1, .int .i64 a4_2, .int .i64 a4_3, .int .i64 a4_4, .int .i64 0] 26 (0, 0)) (by (with_reducible repeat (first | refine blk_drewN ?_ _ | refine blk_drew ?_ | refine blk_alloc ?_ _)); exact BK294.out) hb); have n1_ := Aside0.mk (below_step (by repeat (first | (with_reducible first | exact HB.out | apply below_alloc | apply pw_below_drewN | apply below_drew1 | refine below_set ?_ GE294.out) | exact HB.out)) hb); clear BK294; clear HB; have BK294 := n0_; have HB := n1_; clear n0_ n1_; (try clear hb); (try clear hb2); (try clear hk); (try clear hi)) | ((with_reducible refine gate_callee (f := 25) rfl ?_); refine goesL_ (some 71) rfl rfl Tryz.func25 (by kernel_rfl) rfl #[.agg #[.int .i64 t310, .int .i64 t311, .int .i64 t312, .int .i64 t313, .int .i64 t314, .int .i64 t315]] rfl (by (try simp only [List.map_toArray, List.map_cons, List.map_nil]); first | done | rfl | (simp only [List.length_drop, List.length_take]; rfl)) ?_; (with_reducible refine (laws_numbers.calls kj5 t310 t311 t312 t313 t314 t315 t316 t317 t318 t319 t320 t321 _ A33.out).mono ?_); rintro e w74 ⟨rfl, hb⟩; refine ⟨_, rfl, ?_⟩; have n0_ := Aside0.mk (blk_below (g := gb294) (o := .cells #[.int .i64 a4_0, .int .i64 a4_1, .int .i64 a4_2, .int .i64 a4_3, .int .i64 a4_4, .int .i64 0] 26 (0, 0)) (by (with_reducible repeat (first | refine blk_drewN ?_ _ | refine blk_drew ?_ | refine blk_alloc ?_ _)); exact BK294.out) hb); have n1_ := Aside0.mk (below_step (by repeat (first | (with_reducible first | exact HB.out | apply below_alloc | apply pw_below_drewN | apply below_drew1 | refine below_set ?_ GE294.out) | exact HB.out)) hb); clear BK294; clear HB; have BK294 := n0_; have HB := n1_; clear n0_ n1_; (try clear hb); (try clear hb2); (try clear hk); (try clear hi); have hcz75_0 : w74.cell? ⟨gb294, 0, none⟩ = some (.int .i64 a4_0) := (blk_cell BK294.out 0).trans rfl; have hcz75_1 : w74.cell? ⟨gb294, 1, none⟩ = some (.int .i64 a4_1) := (blk_cell BK294.out 1).trans rfl; have hcz75_2 : w74.cell? ⟨gb294, 2, none⟩ = some (.int .i64 a4_2) := (blk_cell BK294.out 2).trans rfl; have hcz75_3 : w74.cell? ⟨gb294, 3, none⟩ = some (.int .i64 a4_3) := (blk_cell BK294.out 3).trans rfl; have hcz75_4 : w74.cell? ⟨gb294, 4, none⟩ = some (.int .i64 a4_4) := (blk_cell BK294.out 4).trans rfl; have hcz75_5 : w74.cell? ⟨gb294, 5, none⟩ = some (.int .i64 0) := (blk_cell BK294.out 5).trans rfl; have hfz75_0 := blk_frozen BK294.out 0; have hfz75_1 := blk_frozen BK294.out 1; have hfz75_2 := blk_frozen BK294.out 2; have hfz75_3 := blk_frozen BK294.out 3; have hfz75_4 := blk_frozen BK294.out 4; have hfz75_5 := blk_frozen BK294.out 5))
                                    go_ret
                                    exact ⟨by first | rfl | (simp [errW_none, errW_some] <;> rfl) | (simp [*, errW_none, errW_some] <;> rfl), by repeat (first | (with_reducible first | exact HB.out | apply below_alloc | apply pw_below_drewN | apply below_drew1 | refine below_set ?_ GE294.out) | exact HB.out)⟩
                                · rw [if_neg c58] at H
                                  have c58b0 : (a4_4 == 0) = false := beq_eq_false_iff_ne.mpr c58
                                  have c58b1 : (a4_4 != 0) = true := bne_iff_ne.mpr c58
                                  obtain rfl := Option.some.inj H
                                  have hcz76_0 : wc.cell? ⟨gb294, 0, none⟩ = some (.int .i64 a4_0) := (blk_cell BK294.out 0).trans rfl
                                  have hcz76_1 : wc.cell? ⟨gb294, 1, none⟩ = some (.int .i64 a4_1) := (blk_cell BK294.out 1).trans rfl
                                  have hcz76_2 : wc.cell? ⟨gb294, 2, none⟩ = some (.int .i64 a4_2) := (blk_cell BK294.out 2).trans rfl
                                  have hcz76_3 : wc.cell? ⟨gb294, 3, none⟩ = some (.int .i64 a4_3) := (blk_cell BK294.out 3).trans rfl
                                  have hcz76_4 : wc.cell? ⟨gb294, 4, none⟩ = some (.int .i64 a4_4) := (blk_cell BK294.out 4).trans rfl
                                  have hcz76_5 : wc.cell? ⟨gb294, 5, none⟩ = some (.int .i64 a4_5) := (blk_cell BK294.out 5).trans rfl
                                  have hfz76_0 := blk_frozen BK294.out 0
                                  have hfz76_1 := blk_frozen BK294.out 1
                                  have hfz76_2 := blk_frozen BK294.out 2
                                  have hfz76_3 := blk_frozen BK294.out 3
                                  have hfz76_4 := blk_frozen BK294.out 4
                                  have hfz76_5 := blk_frozen BK294.out 5
                                  try go_wp2
                                  have n0_ : Aside0 ((wc.setCell ⟨gb294, 5, none⟩ (.int .i64 0)).heap[gb294]? = some (.cells #[.int .i64 a4_0, .int .i64 a4_1, .int .i64 a4_2, .int .i64 a4_3, .int .i64 a4_4, .int .i64 0] 26 (0, 0))) := ⟨by (with_reducible repeat (first | refine blk_drewN ?_ _ | refine blk_drew ?_ | refine blk_alloc ?_ _)); refine blk_put (cs := #[.int .i64 a4_0, .int .i64 a4_1, .int .i64 a4_2, .int .i64 a4_3, .int .i64 a4_4, .int .i64 a4_5]) ?_ 5 _ rfl; (with_reducible repeat (first | refine blk_drewN ?_ _ | refine blk_drew ?_ | refine blk_alloc ?_ _)); exact BK294.out⟩
                                  have n1_ : Aside0 (Below w.heap.size w (wc.setCell ⟨gb294, 5, none⟩ (.int .i64 0))) := ⟨by repeat (first | (with_reducible first | exact HB.out | apply below_alloc | apply pw_below_drewN | apply below_drew1 | refine below_set ?_ GE294.out) | exact HB.out)⟩
                                  (try clear BK294)
                                  (try clear HB)
                                  generalize (wc.setCell ⟨gb294, 5, none⟩ (.int .i64 0)) = w77 at n0_ n1_ ⊢
                                  have BK294 := n0_
                                  have HB := n1_
                                  clear n0_ n1_
                                  have n0_ := Aside0.mk (blk_drew BK294.out)
                                  have n1_ := Aside0.mk (below_drew1 HB.out)
                                  clear BK294
                                  clear HB
                                  have BK294 := n0_
                                  have HB := n1_
                                  clear n0_ n1_
                                  refine start_ (n := 19) (S := fun w' => w'.cell? ⟨gb294, 0, none⟩ = some (.int .i64 a4_0) ∧ w'.cell? ⟨gb294, 1, none⟩ = some (.int .i64 a4_1) ∧ w'.cell? ⟨gb294, 2, none⟩ = some (.int .i64 a4_2) ∧ w'.cell? ⟨gb294, 3, none⟩ = some (.int .i64 a4_3) ∧ w'.cell? ⟨gb294, 4, none⟩ = some (.int .i64 a4_4) ∧ w'.cell? ⟨gb294, 5, none⟩ = some (.int .i64 0)) (ds := []) #[false, false, false, false, false, false, false, false, false, false, false, false, false, false, false, false, false, false, false] (by kernel_rfl) rfl rfl ⟨(blk_cell BK294.out 0).trans rfl, (blk_cell BK294.out 1).trans rfl, (blk_cell BK294.out 2).trans rfl, (blk_cell BK294.out 3).trans rfl, (blk_cell BK294.out 4).trans rfl, (blk_cell BK294.out 5).trans rfl⟩ (fun hHeld => ?_); refine with_tabW laws_FnStepRange.tab4 laws_FnStepRange.bits4 (fun HT_ HW_ => ?_)
                                  generalize w77.drew = w78 at BK294 HB hHeld ⊢
                                  refine pure_ (i := 0) (N := some 53) (v := ?_) (a' := ?_) #[true, false, false, false, false, false, false, false, false, false, false, false, false, false, false, false, false, false, false] rfl rfl (any_of HT_.out (by kernel_rfl)) (fun _ _ _ h => h) (Or.inl ⟨by rfl, ?_⟩) ?_ ?_
                                  rotate_left
                                  · intro w'
                                    go_simp
                                    with_reducible rfl
                                  rotate_left
                                  · simp only [Act.put, List.setIfInBounds_toArray, List.set_cons_zero, List.set_cons_succ, i64_w, i32_w]
                                    rfl
                                  refine pure_ (i := 1) (N := some 54) (v := ?_) (a' := ?_) #[true, true, false, false, false, false, false, false, false, false, false, false, false, false, false, false, false, false, false] rfl rfl (any_of HT_.out (by kernel_rfl)) (fun _ _ _ h => h) (Or.inl ⟨by rfl, ?_⟩) ?_ ?_
                                  rotate_left
                                  · intro w'
                                    go_simp
                                    with_reducible rfl
                                  rotate_left
                                  · simp only [Act.put, List.setIfInBounds_toArray, List.set_cons_zero, List.set_cons_succ, i64_w, i32_w]
                                    rfl
                                  refine pure_ (i := 4) (N := some 57) (v := ?_) (a' := ?_) #[true, true, false, false, true, false, false, false, false, false, false, false, false, false, false, false, false, false, false] rfl rfl (any_of HT_.out (by kernel_rfl)) (fun _ _ _ h => h) (Or.inl ⟨by rfl, ?_⟩) ?_ ?_
                                  rotate_left
                                  · intro w'
                                    go_simp
                                    with_reducible rfl
                                  rotate_left
                                  · simp only [Act.put, List.setIfInBounds_toArray, List.set_cons_zero, List.set_cons_succ, i64_w, i32_w]
                                    rfl
                                  refine pure_ (i := 8) (N := some 61) (v := ?_) (a' := ?_) #[true, true, false, false, true, false, false, false, true, false, false, false, false, false, false, false, false, false, false] rfl rfl (any_of HT_.out (by kernel_rfl)) (fun _ _ _ h => h) (Or.inl ⟨by rfl, ?_⟩) ?_ ?_
                                  rotate_left
                                  · intro w'
                                    go_simp
                                    with_reducible rfl
                                  rotate_left
                                  · simp only [Act.put, List.setIfInBounds_toArray, List.set_cons_zero, List.set_cons_succ, i64_w, i32_w]
                                    rfl
                                  refine take_ (i := 12) (N := some 65) (v := ?_) (a' := ?_) #[true, true, false, false, true, false, false, false, true, false, false, false, true, false, false, false, false, false, false] rfl rfl (take_ofW HT_.out HW_.out (by kernel_rfl)) (fun _ _ _ h => h) (Or.inl ⟨by rfl, ?_⟩) hHeld ?_ ?_
                                  rotate_left
                                  · rintro w' ⟨s0, s1, s2, s3, s4, s5⟩
                                    go_simp
                                    with_reducible rfl
                                  rotate_left
                                  · simp only [Act.put, List.setIfInBounds_toArray, List.set_cons_zero, List.set_cons_succ, i64_w, i32_w]
                                    rfl
                                  refine one_ (i := 2) (N := some 55) #[true, true, true, false, true, false, false, false, true, false, false, false, true, false, false, false, false, false, false] rfl rfl (one_of HT_.out (by kernel_rfl)) (by decide) (fun K hK => ?_)
                                  refine goes_ Tryz.func24 (by kernel_rfl) rfl #[.int .i64 a1] (by rfl) rfl rfl (by (try simp only [List.map_toArray, List.map_cons, List.map_nil]); first | done | rfl | (simp only [List.length_drop, List.length_take]; rfl)) ?_
                                  with_reducible refine (spec_Decimal.calls kj5 a1 t304 _ A23.out).mono ?_
                                  rintro e w' ⟨rfl, ⟨nd, rfl⟩⟩
                                  refine ⟨_, rfl, ?_⟩
                                  refine hK.out _ _ ⟨(blk_cell BK294.out 0).trans rfl, (blk_cell BK294.out 1).trans rfl, (blk_cell BK294.out 2).trans rfl, (blk_cell BK294.out 3).trans rfl, (blk_cell BK294.out 4).trans rfl, (blk_cell BK294.out 5).trans rfl⟩ (fun hHeld => ?_)
                                  clear hK K
                                  refine norm_ (a' := ?_) ?_ ?_
                                  rotate_left
                                  · show Act.put _ (some 55) _ = _
                                    simp only [Act.put, List.setIfInBounds_toArray, List.set_cons_zero, List.set_cons_succ, i64_w, i32_w]
                                    rfl
                                  refine pure_ (i := 3) (N := some 56) (v := ?_) (a' := ?_) #[true, true, true, true, true, false, false, false, true, false, false, false, true, false, false, false, false, false, false] rfl rfl (any_of HT_.out (by kernel_rfl)) (fun _ _ _ h => h) (Or.inl ⟨by rfl, ?_⟩) ?_ ?_
                                  rotate_left
                                  · intro w'
                                    go_simp
                                    with_reducible rfl
                                  rotate_left
                                  · simp only [Act.put, List.setIfInBounds_toArray, List.set_cons_zero, List.set_cons_succ, i64_w, i32_w]
                                    rfl
                                  refine one_ (i := 5) (N := some 58) #[true, true, true, true, true, true, false, false, true, false, false, false, true, false, false, false, false, false, false] rfl rfl (one_of HT_.out (by kernel_rfl)) (by decide) (fun K hK => ?_)
                                  refine goes_ Tryz.func24 (by kernel_rfl) rfl #[.int .i64 a2] (by rfl) rfl rfl (by (try simp only [List.map_toArray, List.map_cons, List.map_nil]); first | done | rfl | (simp only [List.length_drop, List.length_take]; rfl)) ?_
                                  with_reducible refine (spec_Decimal.calls kj5 a2 t305 _ A25.out).mono ?_
                                  rintro e w' ⟨rfl, ⟨nd, rfl⟩⟩
                                  refine ⟨_, rfl, ?_⟩
                                  refine hK.out _ _ ⟨(blk_cell BK294.out 0).trans rfl, (blk_cell BK294.out 1).trans rfl, (blk_cell BK294.out 2).trans rfl, (blk_cell BK294.out 3).trans rfl, (blk_cell BK294.out 4).trans rfl, (blk_cell BK294.out 5).trans rfl⟩ (fun hHeld => ?_)
                                  clear hK K
                                  refine norm_ (a' := ?_) ?_ ?_
                                  rotate_left
                                  · show Act.put _ (some 58) _ = _
                                    simp only [Act.put, List.setIfInBounds_toArray, List.set_cons_zero, List.set_cons_succ, i64_w, i32_w]
                                    rfl
                                  refine pure_ (i := 6) (N := some 59) (v := ?_) (a' := ?_) #[true, true, true, true, true, true, true, false, true, false, false, false, true, false, false, false, false, false, false] rfl rfl (any_of HT_.out (by kernel_rfl)) (fun _ _ _ h => h) (Or.inl ⟨by rfl, ?_⟩) ?_ ?_
                                  rotate_left
                                  · intro w'
                                    go_simp
                                    with_reducible rfl
                                  rotate_left
                                  · simp only [Act.put, List.setIfInBounds_toArray, List.set_cons_zero, List.set_cons_succ, i64_w, i32_w]
                                    rfl
                                  refine pure_ (i := 7) (N := some 60) (v := ?_) (a' := ?_) #[true, true, true, true, true, true, true, true, true, false, false, false, true, false, false, false, false, false, false] rfl rfl (any_of HT_.out (by kernel_rfl)) (fun _ _ _ h => h) (Or.inl ⟨by rfl, ?_⟩) ?_ ?_
                                  rotate_left
                                  · intro w'
                                    go_simp
                                    with_reducible rfl
                                  rotate_left
                                  · simp only [Act.put, List.setIfInBounds_toArray, List.set_cons_zero, List.set_cons_succ, i64_w, i32_w]
                                    rfl
                                  refine one_ (i := 9) (N := some 62) #[true, true, true, true, true, true, true, true, true, true, false, false, true, false, false, false, false, false, false] rfl rfl (one_of HT_.out (by kernel_rfl)) (by decide) (fun K hK => ?_)
                                  refine goes_ Tryz.func24 (by kernel_rfl) rfl #[.int .i64 a3] (by rfl) rfl rfl (by (try simp only [List.map_toArray, List.map_cons, List.map_nil]); first | done | rfl | (simp only [List.length_drop, List.length_take]; rfl)) ?_
                                  with_reducible refine (spec_Decimal.calls kj5 a3 t306 _ A28.out).mono ?_
                                  rintro e w' ⟨rfl, ⟨nd, rfl⟩⟩
                                  refine ⟨_, rfl, ?_⟩
                                  refine hK.out _ _ ⟨(blk_cell BK294.out 0).trans rfl, (blk_cell BK294.out 1).trans rfl, (blk_cell BK294.out 2).trans rfl, (blk_cell BK294.out 3).trans rfl, (blk_cell BK294.out 4).trans rfl, (blk_cell BK294.out 5).trans rfl⟩ (fun hHeld => ?_)
                                  clear hK K
                                  refine norm_ (a' := ?_) ?_ ?_
                                  rotate_left
                                  · show Act.put _ (some 62) _ = _
                                    simp only [Act.put, List.setIfInBounds_toArray, List.set_cons_zero, List.set_cons_succ, i64_w, i32_w]
                                    rfl
                                  refine pure_ (i := 10) (N := some 63) (v := ?_) (a' := ?_) #[true, true, true, true, true, true, true, true, true, true, true, false, true, false, false, false, false, false, false] rfl rfl (any_of HT_.out (by kernel_rfl)) (fun _ _ _ h => h) (Or.inl ⟨by rfl, ?_⟩) ?_ ?_
                                  rotate_left
                                  · intro w'
                                    go_simp
                                    with_reducible rfl
                                  rotate_left
                                  · simp only [Act.put, List.setIfInBounds_toArray, List.set_cons_zero, List.set_cons_succ, i64_w, i32_w]
                                    rfl
                                  refine one_ (i := 11) (N := some 64) #[true, true, true, true, true, true, true, true, true, true, true, true, true, false, false, false, false, false, false] rfl rfl (one_of HT_.out (by kernel_rfl)) (by decide) (fun K hK => ?_)
                                  refine goes_ Tryz.func23 (by kernel_rfl) rfl #[.int .i64 a0, .string ((((t304 ++ (⟨#[45]⟩ : ByteArray)) ++ t305) ++ (⟨#[47]⟩ : ByteArray)) ++ t306)] (by rfl) rfl rfl (by (try simp only [List.map_toArray, List.map_cons, List.map_nil]); first | done | rfl | (simp only [List.length_drop, List.length_take]; rfl)) ?_
                                  with_reducible refine (laws_stars.calls kj5 a0 ((((t304 ++ (⟨#[45]⟩ : ByteArray)) ++ t305) ++ (⟨#[47]⟩ : ByteArray)) ++ t306) t307 _ A30.out).mono ?_
                                  rintro e w' ⟨rfl, ⟨nd, rfl⟩⟩
                                  refine ⟨_, rfl, ?_⟩
                                  refine hK.out _ _ ⟨(blk_cell BK294.out 0).trans rfl, (blk_cell BK294.out 1).trans rfl, (blk_cell BK294.out 2).trans rfl, (blk_cell BK294.out 3).trans rfl, (blk_cell BK294.out 4).trans rfl, (blk_cell BK294.out 5).trans rfl⟩ (fun hHeld => ?_)
                                  clear hK K
                                  refine norm_ (a' := ?_) ?_ ?_
                                  rotate_left
                                  · show Act.put _ (some 64) _ = _
                                    simp only [Act.put, List.setIfInBounds_toArray, List.set_cons_zero, List.set_cons_succ, i64_w, i32_w]
                                    rfl
                                  refine one_ (i := 13) (N := some 66) #[true, true, true, true, true, true, true, true, true, true, true, true, true, true, false, false, false, false, false] rfl rfl (one_of HT_.out (by kernel_rfl)) (by decide) (fun K hK => ?_)
                                  refine goes_ Tryz.func14 (by kernel_rfl) rfl #[.string t307, .agg #[.int .i64 a4_0, .int .i64 a4_1, .int .i64 a4_2, .int .i64 a4_3, .int .i64 a4_4, .int .i64 0]] (by rfl) rfl rfl (by (try simp only [List.map_toArray, List.map_cons, List.map_nil]); first | done | rfl | (simp only [List.length_drop, List.length_take]; rfl)) ?_
                                  with_reducible refine (impl_Due.calls t307 a4_0 a4_1 a4_2 a4_3 a4_4 0 t308 true _ A31.out).mono ?_
                                  rintro e w79 ⟨rfl, hb⟩
                                  refine ⟨_, rfl, ?_⟩
                                  have n0_ := Aside0.mk (blk_below (g := gb294) (o := .cells #[.int .i64 a4_0, .int .i64 a4_1, .int .i64 a4_2, .int .i64 a4_3, .int .i64 a4_4, .int .i64 0] 26 (0, 0)) (by (with_reducible repeat (first | refine blk_drewN ?_ _ | refine blk_drew ?_ | refine blk_alloc ?_ _)); exact BK294.out) hb)
                                  have n1_ := Aside0.mk (below_step (by repeat (first | (with_reducible first | exact HB.out | apply below_alloc | apply pw_below_drewN | apply below_drew1 | refine below_set ?_ GE294.out) | exact HB.out)) hb)
                                  clear BK294
                                  clear HB
                                  have BK294 := n0_
                                  have HB := n1_
                                  clear n0_ n1_
                                  (try clear hb)
                                  (try clear hb2)
                                  (try clear hk)
                                  (try clear hi)
                                  refine hK.out _ _ ⟨(blk_cell BK294.out 0).trans rfl, (blk_cell BK294.out 1).trans rfl, (blk_cell BK294.out 2).trans rfl, (blk_cell BK294.out 3).trans rfl, (blk_cell BK294.out 4).trans rfl, (blk_cell BK294.out 5).trans rfl⟩ (fun hHeld => ?_)
                                  clear hK K
                                  refine norm_ (a' := ?_) ?_ ?_
                                  rotate_left
                                  · show Act.put _ (some 66) _ = _
                                    simp only [Act.put, List.setIfInBounds_toArray, List.set_cons_zero, List.set_cons_succ, i64_w, i32_w]
                                    rfl
                                  refine pure_ (i := 14) (N := some 52) (v := ?_) (a' := ?_) #[true, true, true, true, true, true, true, true, true, true, true, true, true, true, true, false, false, false, false] rfl rfl (any_of HT_.out (by kernel_rfl)) (fun _ _ _ h => h) (Or.inl ⟨by rfl, ?_⟩) ?_ ?_
                                  rotate_left
                                  · intro w'
                                    go_simp
                                    with_reducible rfl
                                  rotate_left
                                  · simp only [Act.put, List.setIfInBounds_toArray, List.set_cons_zero, List.set_cons_succ, i64_w, i32_w]
                                    rfl
                                  refine pure_ (i := 15) (N := some 67) (v := ?_) (a' := ?_) #[true, true, true, true, true, true, true, true, true, true, true, true, true, true, true, true, false, false, false] rfl rfl (any_of HT_.out (by kernel_rfl)) (fun _ _ _ h => h) (Or.inl ⟨by rfl, ?_⟩) ?_ ?_
                                  rotate_left
                                  · intro w'
                                    go_simp
                                    with_reducible rfl
                                  rotate_left
                                  · simp only [Act.put, List.setIfInBounds_toArray, List.set_cons_zero, List.set_cons_succ, i64_w, i32_w]
                                    rfl
                                  refine pure_ (i := 16) (N := some 68) (v := ?_) (a' := ?_) #[true, true, true, true, true, true, true, true, true, true, true, true, true, true, true, true, true, false, false] rfl rfl (any_of HT_.out (by kernel_rfl)) (fun _ _ _ h => h) (Or.inl ⟨by rfl, ?_⟩) ?_ ?_
                                  rotate_left
                                  · intro w'
                                    go_simp
                                    with_reducible rfl
                                  rotate_left
                                  · simp only [Act.put, List.setIfInBounds_toArray, List.set_cons_zero, List.set_cons_succ, i64_w, i32_w]
                                    rfl
                                  refine pure_ (i := 17) (N := some 11) (v := ?_) (a' := ?_) #[true, true, true, true, true, true, true, true, true, true, true, true, true, true, true, true, true, true, false] rfl rfl (any_of HT_.out (by kernel_rfl)) (fun _ _ _ h => h) (Or.inl ⟨by rfl, ?_⟩) ?_ ?_
                                  rotate_left
                                  · intro w'
                                    go_simp
                                    with_reducible rfl
                                  rotate_left
                                  · simp only [Act.put, List.setIfInBounds_toArray, List.set_cons_zero, List.set_cons_succ, i64_w, i32_w]
                                    rfl
                                  refine pure_ (i := 18) (N := some 12) (v := ?_) (a' := ?_) #[true, true, true, true, true, true, true, true, true, true, true, true, true, true, true, true, true, true, true] rfl rfl (any_of HT_.out (by kernel_rfl)) (fun _ _ _ h => h) (Or.inl ⟨by rfl, ?_⟩) ?_ ?_
                                  rotate_left
                                  · intro w'
                                    go_simp
                                    with_reducible rfl
                                  rotate_left
                                  · simp only [Act.put, List.setIfInBounds_toArray, List.set_cons_zero, List.set_cons_succ, i64_w, i32_w]
                                    rfl
                                  refine done_ (done_of HT_.out (by kernel_rfl)) ?_
                                  have hcz80_0 : w79.cell? ⟨gb294, 0, none⟩ = some (.int .i64 a4_0) := (blk_cell BK294.out 0).trans rfl
                                  have hcz80_1 : w79.cell? ⟨gb294, 1, none⟩ = some (.int .i64 a4_1) := (blk_cell BK294.out 1).trans rfl
                                  have hcz80_2 : w79.cell? ⟨gb294, 2, none⟩ = some (.int .i64 a4_2) := (blk_cell BK294.out 2).trans rfl
                                  have hcz80_3 : w79.cell? ⟨gb294, 3, none⟩ = some (.int .i64 a4_3) := (blk_cell BK294.out 3).trans rfl
                                  have hcz80_4 : w79.cell? ⟨gb294, 4, none⟩ = some (.int .i64 a4_4) := (blk_cell BK294.out 4).trans rfl
                                  have hcz80_5 : w79.cell? ⟨gb294, 5, none⟩ = some (.int .i64 0) := (blk_cell BK294.out 5).trans rfl
                                  have hfz80_0 := blk_frozen BK294.out 0
                                  have hfz80_1 := blk_frozen BK294.out 1
                                  have hfz80_2 := blk_frozen BK294.out 2
                                  have hfz80_3 := blk_frozen BK294.out 3
                                  have hfz80_4 := blk_frozen BK294.out 4
                                  have hfz80_5 := blk_frozen BK294.out 5
                                  try go_wp2_with (first | ((with_reducible refine gate_callee (f := 19) rfl ?_); refine goesL_ (some 70) rfl rfl Tryz.func19 (by kernel_rfl) rfl #[.agg #[.int .i64 a4_0, .int .i64 a4_1, .int .i64 a4_2, .int .i64 a4_3, .int .i64 a4_4, .int .i64 0]] rfl (by (try simp only [List.map_toArray, List.map_cons, List.map_nil]); first | done | rfl | (simp only [List.length_drop, List.length_take]; rfl)) ?_; (with_reducible refine (laws_moment.calls a4_0 a4_1 a4_2 a4_3 a4_4 0 t310 t311 t312 t313 t314 t315 _ A32.out).mono ?_); rintro e w81 ⟨rfl, hb⟩; refine ⟨_, rfl, ?_⟩; have n0_ := Aside0.mk (blk_below (g := gb294) (o := .cells #[.int .i64 a4_0, .int .i64 a4_1, .int .i64 a4_2, .int .i64 a4_3, .int .i64 a4_4, .int .i64 0] 26 (0, 0)) (by (with_reducible repeat (first | refine blk_drewN ?_ _ | refine blk_drew ?_ | refine blk_alloc ?_ _)); exact BK294.out) hb); have n1_ := Aside0.mk (below_step (by repeat (first | (with_reducible first | exact HB.out | apply below_alloc | apply pw_below_drewN | apply below_drew1 | refine below_set ?_ GE294.out) | exact HB.out)) hb); clear BK294; clear HB; have BK294 := n0_; have HB := n1_; clear n0_ n1_; (try clear hb); (try clear hb2); (try clear hk); (try clear hi)) | ((with_reducible refine gate_callee (f := 25) rfl ?_); refine goesL_ (some 71) rfl rfl Tryz.func25 (by kernel_rfl) rfl #[.agg #[.int .i64 t310, .int .i64 t311, .int .i64 t312, .int .i64 t313, .int .i64 t314, .int .i64 t315]] rfl (by (try simp only [List.map_toArray, List.map_cons, List.map_nil]); first | done | rfl | (simp only [List.length_drop, List.length_take]; rfl)) ?_; (with_reducible refine (laws_numbers.calls kj5 t310 t311 t312 t313 t314 t315 t316 t317 t318 t319 t320 t321 _ A33.out).mono ?_); rintro e w82 ⟨rfl, hb⟩; refine ⟨_, rfl, ?_⟩; have n0_ := Aside0.mk (blk_below (g := gb294) (o := .cells #[.int .i64 a4_0, .int .i64 a4_1, .int .i64 a4_2, .int .i64 a4_3, .int .i64 a4_4, .int .i64 0] 26 (0, 0)) (by (with_reducible repeat (first | refine blk_drewN ?_ _ | refine blk_drew ?_ | refine blk_alloc ?_ _)); exact BK294.out) hb); have n1_ := Aside0.mk (below_step (by repeat (first | (with_reducible first | exact HB.out | apply below_alloc | apply pw_below_drewN | apply below_drew1 | refine below_set ?_ GE294.out) | exact HB.out)) hb); clear BK294; clear HB; have BK294 := n0_; have HB := n1_; clear n0_ n1_; (try clear hb); (try clear hb2); (try clear hk); (try clear hi); have hcz83_0 : w82.cell? ⟨gb294, 0, none⟩ = some (.int .i64 a4_0) := (blk_cell BK294.out 0).trans rfl; have hcz83_1 : w82.cell? ⟨gb294, 1, none⟩ = some (.int .i64 a4_1) := (blk_cell BK294.out 1).trans rfl; have hcz83_2 : w82.cell? ⟨gb294, 2, none⟩ = some (.int .i64 a4_2) := (blk_cell BK294.out 2).trans rfl; have hcz83_3 : w82.cell? ⟨gb294, 3, none⟩ = some (.int .i64 a4_3) := (blk_cell BK294.out 3).trans rfl; have hcz83_4 : w82.cell? ⟨gb294, 4, none⟩ = some (.int .i64 a4_4) := (blk_cell BK294.out 4).trans rfl; have hcz83_5 : w82.cell? ⟨gb294, 5, none⟩ = some (.int .i64 0) := (blk_cell BK294.out 5).trans rfl; have hfz83_0 := blk_frozen BK294.out 0; have hfz83_1 := blk_frozen BK294.out 1; have hfz83_2 := blk_frozen BK294.out 2; have hfz83_3 := blk_frozen BK294.out 3; have hfz83_4 := blk_frozen BK294.out 4; have hfz83_5 := blk_frozen BK294.out 5))
                                  go_ret
                                  exact ⟨by first | rfl | (simp [errW_none, errW_some] <;> rfl) | (simp [*, errW_none, errW_some] <;> rfl), by repeat (first | (with_reducible first | exact HB.out | apply below_alloc | apply pw_below_drewN | apply below_drew1 | refine below_set ?_ GE294.out) | exact HB.out)⟩
                            · rw [if_neg c40] at H
                              have c40b0 : ((Int.tmod (wrap64 ((rd [t316, t317, t318, t319, t320, t321] a0) - a1)) a3) == 0) = false := beq_eq_false_iff_ne.mpr c40
                              have c40b1 : ((Int.tmod (wrap64 ((rd [t316, t317, t318, t319, t320, t321] a0) - a1)) a3) != 0) = true := bne_iff_ne.mpr c40
                              obtain rfl := Option.some.inj H
                              have hcz84_0 : wc.cell? ⟨gb294, 0, none⟩ = some (.int .i64 a4_0) := (blk_cell BK294.out 0).trans rfl
                              have hcz84_1 : wc.cell? ⟨gb294, 1, none⟩ = some (.int .i64 a4_1) := (blk_cell BK294.out 1).trans rfl
                              have hcz84_2 : wc.cell? ⟨gb294, 2, none⟩ = some (.int .i64 a4_2) := (blk_cell BK294.out 2).trans rfl
                              have hcz84_3 : wc.cell? ⟨gb294, 3, none⟩ = some (.int .i64 a4_3) := (blk_cell BK294.out 3).trans rfl
                              have hcz84_4 : wc.cell? ⟨gb294, 4, none⟩ = some (.int .i64 a4_4) := (blk_cell BK294.out 4).trans rfl
                              have hcz84_5 : wc.cell? ⟨gb294, 5, none⟩ = some (.int .i64 a4_5) := (blk_cell BK294.out 5).trans rfl
                              have hfz84_0 := blk_frozen BK294.out 0
                              have hfz84_1 := blk_frozen BK294.out 1
                              have hfz84_2 := blk_frozen BK294.out 2
                              have hfz84_3 := blk_frozen BK294.out 3
                              have hfz84_4 := blk_frozen BK294.out 4
                              have hfz84_5 := blk_frozen BK294.out 5
                              try go_wp2
                              have n0_ : Aside0 ((wc.setCell ⟨gb294, 5, none⟩ (.int .i64 0)).heap[gb294]? = some (.cells #[.int .i64 a4_0, .int .i64 a4_1, .int .i64 a4_2, .int .i64 a4_3, .int .i64 a4_4, .int .i64 0] 26 (0, 0))) := ⟨by (with_reducible repeat (first | refine blk_drewN ?_ _ | refine blk_drew ?_ | refine blk_alloc ?_ _)); refine blk_put (cs := #[.int .i64 a4_0, .int .i64 a4_1, .int .i64 a4_2, .int .i64 a4_3, .int .i64 a4_4, .int .i64 a4_5]) ?_ 5 _ rfl; (with_reducible repeat (first | refine blk_drewN ?_ _ | refine blk_drew ?_ | refine blk_alloc ?_ _)); exact BK294.out⟩
                              have n1_ : Aside0 (Below w.heap.size w (wc.setCell ⟨gb294, 5, none⟩ (.int .i64 0))) := ⟨by repeat (first | (with_reducible first | exact HB.out | apply below_alloc | apply pw_below_drewN | apply below_drew1 | refine below_set ?_ GE294.out) | exact HB.out)⟩
                              (try clear BK294)
                              (try clear HB)
                              generalize (wc.setCell ⟨gb294, 5, none⟩ (.int .i64 0)) = w85 at n0_ n1_ ⊢
                              have BK294 := n0_
                              have HB := n1_
                              clear n0_ n1_
                              have n0_ := Aside0.mk (blk_drew BK294.out)
                              have n1_ := Aside0.mk (below_drew1 HB.out)
                              clear BK294
                              clear HB
                              have BK294 := n0_
                              have HB := n1_
                              clear n0_ n1_
                              refine start_ (n := 19) (S := fun w' => w'.cell? ⟨gb294, 0, none⟩ = some (.int .i64 a4_0) ∧ w'.cell? ⟨gb294, 1, none⟩ = some (.int .i64 a4_1) ∧ w'.cell? ⟨gb294, 2, none⟩ = some (.int .i64 a4_2) ∧ w'.cell? ⟨gb294, 3, none⟩ = some (.int .i64 a4_3) ∧ w'.cell? ⟨gb294, 4, none⟩ = some (.int .i64 a4_4) ∧ w'.cell? ⟨gb294, 5, none⟩ = some (.int .i64 0)) (ds := []) #[false, false, false, false, false, false, false, false, false, false, false, false, false, false, false, false, false, false, false] (by kernel_rfl) rfl rfl ⟨(blk_cell BK294.out 0).trans rfl, (blk_cell BK294.out 1).trans rfl, (blk_cell BK294.out 2).trans rfl, (blk_cell BK294.out 3).trans rfl, (blk_cell BK294.out 4).trans rfl, (blk_cell BK294.out 5).trans rfl⟩ (fun hHeld => ?_); refine with_tabW laws_FnStepRange.tab4 laws_FnStepRange.bits4 (fun HT_ HW_ => ?_)
                              generalize w85.drew = w86 at BK294 HB hHeld ⊢
                              refine pure_ (i := 0) (N := some 53) (v := ?_) (a' := ?_) #[true, false, false, false, false, false, false, false, false, false, false, false, false, false, false, false, false, false, false] rfl rfl (any_of HT_.out (by kernel_rfl)) (fun _ _ _ h => h) (Or.inl ⟨by rfl, ?_⟩) ?_ ?_
                              rotate_left
                              · intro w'
                                go_simp
                                with_reducible rfl
                              rotate_left
                              · simp only [Act.put, List.setIfInBounds_toArray, List.set_cons_zero, List.set_cons_succ, i64_w, i32_w]
                                rfl
                              refine pure_ (i := 1) (N := some 54) (v := ?_) (a' := ?_) #[true, true, false, false, false, false, false, false, false, false, false, false, false, false, false, false, false, false, false] rfl rfl (any_of HT_.out (by kernel_rfl)) (fun _ _ _ h => h) (Or.inl ⟨by rfl, ?_⟩) ?_ ?_
                              rotate_left
                              · intro w'
                                go_simp
                                with_reducible rfl
                              rotate_left
                              · simp only [Act.put, List.setIfInBounds_toArray, List.set_cons_zero, List.set_cons_succ, i64_w, i32_w]
                                rfl
                              refine pure_ (i := 4) (N := some 57) (v := ?_) (a' := ?_) #[true, true, false, false, true, false, false, false, false, false, false, false, false, false, false, false, false, false, false] rfl rfl (any_of HT_.out (by kernel_rfl)) (fun _ _ _ h => h) (Or.inl ⟨by rfl, ?_⟩) ?_ ?_
                              rotate_left
                              · intro w'
                                go_simp
                                with_reducible rfl
                              rotate_left
                              · simp only [Act.put, List.setIfInBounds_toArray, List.set_cons_zero, List.set_cons_succ, i64_w, i32_w]
                                rfl
                              refine pure_ (i := 8) (N := some 61) (v := ?_) (a' := ?_) #[true, true, false, false, true, false, false, false, true, false, false, false, false, false, false, false, false, false, false] rfl rfl (any_of HT_.out (by kernel_rfl)) (fun _ _ _ h => h) (Or.inl ⟨by rfl, ?_⟩) ?_ ?_
                              rotate_left
                              · intro w'
                                go_simp
                                with_reducible rfl
                              rotate_left
                              · simp only [Act.put, List.setIfInBounds_toArray, List.set_cons_zero, List.set_cons_succ, i64_w, i32_w]
                                rfl
                              refine take_ (i := 12) (N := some 65) (v := ?_) (a' := ?_) #[true, true, false, false, true, false, false, false, true, false, false, false, true, false, false, false, false, false, false] rfl rfl (take_ofW HT_.out HW_.out (by kernel_rfl)) (fun _ _ _ h => h) (Or.inl ⟨by rfl, ?_⟩) hHeld ?_ ?_
                              rotate_left
                              · rintro w' ⟨s0, s1, s2, s3, s4, s5⟩
                                go_simp
                                with_reducible rfl
                              rotate_left
                              · simp only [Act.put, List.setIfInBounds_toArray, List.set_cons_zero, List.set_cons_succ, i64_w, i32_w]
                                rfl
                              refine one_ (i := 2) (N := some 55) #[true, true, true, false, true, false, false, false, true, false, false, false, true, false, false, false, false, false, false] rfl rfl (one_of HT_.out (by kernel_rfl)) (by decide) (fun K hK => ?_)
                              refine goes_ Tryz.func24 (by kernel_rfl) rfl #[.int .i64 a1] (by rfl) rfl rfl (by (try simp only [List.map_toArray, List.map_cons, List.map_nil]); first | done | rfl | (simp only [List.length_drop, List.length_take]; rfl)) ?_
                              with_reducible refine (spec_Decimal.calls kj5 a1 t304 _ A23.out).mono ?_
                              rintro e w' ⟨rfl, ⟨nd, rfl⟩⟩
                              refine ⟨_, rfl, ?_⟩
                              refine hK.out _ _ ⟨(blk_cell BK294.out 0).trans rfl, (blk_cell BK294.out 1).trans rfl, (blk_cell BK294.out 2).trans rfl, (blk_cell BK294.out 3).trans rfl, (blk_cell BK294.out 4).trans rfl, (blk_cell BK294.out 5).trans rfl⟩ (fun hHeld => ?_)
                              clear hK K
                              refine norm_ (a' := ?_) ?_ ?_
                              rotate_left
                              · show Act.put _ (some 55) _ = _
                                simp only [Act.put, List.setIfInBounds_toArray, List.set_cons_zero, List.set_cons_succ, i64_w, i32_w]
                                rfl
                              refine pure_ (i := 3) (N := some 56) (v := ?_) (a' := ?_) #[true, true, true, true, true, false, false, false, true, false, false, false, true, false, false, false, false, false, false] rfl rfl (any_of HT_.out (by kernel_rfl)) (fun _ _ _ h => h) (Or.inl ⟨by rfl, ?_⟩) ?_ ?_
                              rotate_left
                              · intro w'
                                go_simp
                                with_reducible rfl
                              rotate_left
                              · simp only [Act.put, List.setIfInBounds_toArray, List.set_cons_zero, List.set_cons_succ, i64_w, i32_w]
                                rfl
                              refine one_ (i := 5) (N := some 58) #[true, true, true, true, true, true, false, false, true, false, false, false, true, false, false, false, false, false, false] rfl rfl (one_of HT_.out (by kernel_rfl)) (by decide) (fun K hK => ?_)
                              refine goes_ Tryz.func24 (by kernel_rfl) rfl #[.int .i64 a2] (by rfl) rfl rfl (by (try simp only [List.map_toArray, List.map_cons, List.map_nil]); first | done | rfl | (simp only [List.length_drop, List.length_take]; rfl)) ?_
                              with_reducible refine (spec_Decimal.calls kj5 a2 t305 _ A25.out).mono ?_
                              rintro e w' ⟨rfl, ⟨nd, rfl⟩⟩
                              refine ⟨_, rfl, ?_⟩
                              refine hK.out _ _ ⟨(blk_cell BK294.out 0).trans rfl, (blk_cell BK294.out 1).trans rfl, (blk_cell BK294.out 2).trans rfl, (blk_cell BK294.out 3).trans rfl, (blk_cell BK294.out 4).trans rfl, (blk_cell BK294.out 5).trans rfl⟩ (fun hHeld => ?_)
                              clear hK K
                              refine norm_ (a' := ?_) ?_ ?_
                              rotate_left
                              · show Act.put _ (some 58) _ = _
                                simp only [Act.put, List.setIfInBounds_toArray, List.set_cons_zero, List.set_cons_succ, i64_w, i32_w]
                                rfl
                              refine pure_ (i := 6) (N := some 59) (v := ?_) (a' := ?_) #[true, true, true, true, true, true, true, false, true, false, false, false, true, false, false, false, false, false, false] rfl rfl (any_of HT_.out (by kernel_rfl)) (fun _ _ _ h => h) (Or.inl ⟨by rfl, ?_⟩) ?_ ?_
                              rotate_left
                              · intro w'
                                go_simp
                                with_reducible rfl
                              rotate_left
                              · simp only [Act.put, List.setIfInBounds_toArray, List.set_cons_zero, List.set_cons_succ, i64_w, i32_w]
                                rfl
                              refine pure_ (i := 7) (N := some 60) (v := ?_) (a' := ?_) #[true, true, true, true, true, true, true, true, true, false, false, false, true, false, false, false, false, false, false] rfl rfl (any_of HT_.out (by kernel_rfl)) (fun _ _ _ h => h) (Or.inl ⟨by rfl, ?_⟩) ?_ ?_
                              rotate_left
                              · intro w'
                                go_simp
                                with_reducible rfl
                              rotate_left
                              · simp only [Act.put, List.setIfInBounds_toArray, List.set_cons_zero, List.set_cons_succ, i64_w, i32_w]
                                rfl
                              refine one_ (i := 9) (N := some 62) #[true, true, true, true, true, true, true, true, true, true, false, false, true, false, false, false, false, false, false] rfl rfl (one_of HT_.out (by kernel_rfl)) (by decide) (fun K hK => ?_)
                              refine goes_ Tryz.func24 (by kernel_rfl) rfl #[.int .i64 a3] (by rfl) rfl rfl (by (try simp only [List.map_toArray, List.map_cons, List.map_nil]); first | done | rfl | (simp only [List.length_drop, List.length_take]; rfl)) ?_
                              with_reducible refine (spec_Decimal.calls kj5 a3 t306 _ A28.out).mono ?_
                              rintro e w' ⟨rfl, ⟨nd, rfl⟩⟩
                              refine ⟨_, rfl, ?_⟩
                              refine hK.out _ _ ⟨(blk_cell BK294.out 0).trans rfl, (blk_cell BK294.out 1).trans rfl, (blk_cell BK294.out 2).trans rfl, (blk_cell BK294.out 3).trans rfl, (blk_cell BK294.out 4).trans rfl, (blk_cell BK294.out 5).trans rfl⟩ (fun hHeld => ?_)
                              clear hK K
                              refine norm_ (a' := ?_) ?_ ?_
                              rotate_left
                              · show Act.put _ (some 62) _ = _
                                simp only [Act.put, List.setIfInBounds_toArray, List.set_cons_zero, List.set_cons_succ, i64_w, i32_w]
                                rfl
                              refine pure_ (i := 10) (N := some 63) (v := ?_) (a' := ?_) #[true, true, true, true, true, true, true, true, true, true, true, false, true, false, false, false, false, false, false] rfl rfl (any_of HT_.out (by kernel_rfl)) (fun _ _ _ h => h) (Or.inl ⟨by rfl, ?_⟩) ?_ ?_
                              rotate_left
                              · intro w'
                                go_simp
                                with_reducible rfl
                              rotate_left
                              · simp only [Act.put, List.setIfInBounds_toArray, List.set_cons_zero, List.set_cons_succ, i64_w, i32_w]
                                rfl
                              refine one_ (i := 11) (N := some 64) #[true, true, true, true, true, true, true, true, true, true, true, true, true, false, false, false, false, false, false] rfl rfl (one_of HT_.out (by kernel_rfl)) (by decide) (fun K hK => ?_)
                              refine goes_ Tryz.func23 (by kernel_rfl) rfl #[.int .i64 a0, .string ((((t304 ++ (⟨#[45]⟩ : ByteArray)) ++ t305) ++ (⟨#[47]⟩ : ByteArray)) ++ t306)] (by rfl) rfl rfl (by (try simp only [List.map_toArray, List.map_cons, List.map_nil]); first | done | rfl | (simp only [List.length_drop, List.length_take]; rfl)) ?_
                              with_reducible refine (laws_stars.calls kj5 a0 ((((t304 ++ (⟨#[45]⟩ : ByteArray)) ++ t305) ++ (⟨#[47]⟩ : ByteArray)) ++ t306) t307 _ A30.out).mono ?_
                              rintro e w' ⟨rfl, ⟨nd, rfl⟩⟩
                              refine ⟨_, rfl, ?_⟩
                              refine hK.out _ _ ⟨(blk_cell BK294.out 0).trans rfl, (blk_cell BK294.out 1).trans rfl, (blk_cell BK294.out 2).trans rfl, (blk_cell BK294.out 3).trans rfl, (blk_cell BK294.out 4).trans rfl, (blk_cell BK294.out 5).trans rfl⟩ (fun hHeld => ?_)
                              clear hK K
                              refine norm_ (a' := ?_) ?_ ?_
                              rotate_left
                              · show Act.put _ (some 64) _ = _
                                simp only [Act.put, List.setIfInBounds_toArray, List.set_cons_zero, List.set_cons_succ, i64_w, i32_w]
                                rfl
                              refine one_ (i := 13) (N := some 66) #[true, true, true, true, true, true, true, true, true, true, true, true, true, true, false, false, false, false, false] rfl rfl (one_of HT_.out (by kernel_rfl)) (by decide) (fun K hK => ?_)
                              refine goes_ Tryz.func14 (by kernel_rfl) rfl #[.string t307, .agg #[.int .i64 a4_0, .int .i64 a4_1, .int .i64 a4_2, .int .i64 a4_3, .int .i64 a4_4, .int .i64 0]] (by rfl) rfl rfl (by (try simp only [List.map_toArray, List.map_cons, List.map_nil]); first | done | rfl | (simp only [List.length_drop, List.length_take]; rfl)) ?_
                              with_reducible refine (impl_Due.calls t307 a4_0 a4_1 a4_2 a4_3 a4_4 0 t308 true _ A31.out).mono ?_
                              rintro e w87 ⟨rfl, hb⟩
                              refine ⟨_, rfl, ?_⟩
                              have n0_ := Aside0.mk (blk_below (g := gb294) (o := .cells #[.int .i64 a4_0, .int .i64 a4_1, .int .i64 a4_2, .int .i64 a4_3, .int .i64 a4_4, .int .i64 0] 26 (0, 0)) (by (with_reducible repeat (first | refine blk_drewN ?_ _ | refine blk_drew ?_ | refine blk_alloc ?_ _)); exact BK294.out) hb)
                              have n1_ := Aside0.mk (below_step (by repeat (first | (with_reducible first | exact HB.out | apply below_alloc | apply pw_below_drewN | apply below_drew1 | refine below_set ?_ GE294.out) | exact HB.out)) hb)
                              clear BK294
                              clear HB
                              have BK294 := n0_
                              have HB := n1_
                              clear n0_ n1_
                              (try clear hb)
                              (try clear hb2)
                              (try clear hk)
                              (try clear hi)
                              refine hK.out _ _ ⟨(blk_cell BK294.out 0).trans rfl, (blk_cell BK294.out 1).trans rfl, (blk_cell BK294.out 2).trans rfl, (blk_cell BK294.out 3).trans rfl, (blk_cell BK294.out 4).trans rfl, (blk_cell BK294.out 5).trans rfl⟩ (fun hHeld => ?_)
                              clear hK K
                              refine norm_ (a' := ?_) ?_ ?_
                              rotate_left
                              · show Act.put _ (some 66) _ = _
                                simp only [Act.put, List.setIfInBounds_toArray, List.set_cons_zero, List.set_cons_succ, i64_w, i32_w]
                                rfl
                              refine pure_ (i := 14) (N := some 52) (v := ?_) (a' := ?_) #[true, true, true, true, true, true, true, true, true, true, true, true, true, true, true, false, false, false, false] rfl rfl (any_of HT_.out (by kernel_rfl)) (fun _ _ _ h => h) (Or.inl ⟨by rfl, ?_⟩) ?_ ?_
                              rotate_left
                              · intro w'
                                go_simp
                                with_reducible rfl
                              rotate_left
                              · simp only [Act.put, List.setIfInBounds_toArray, List.set_cons_zero, List.set_cons_succ, i64_w, i32_w]
                                rfl
                              refine pure_ (i := 15) (N := some 67) (v := ?_) (a' := ?_) #[true, true, true, true, true, true, true, true, true, true, true, true, true, true, true, true, false, false, false] rfl rfl (any_of HT_.out (by kernel_rfl)) (fun _ _ _ h => h) (Or.inl ⟨by rfl, ?_⟩) ?_ ?_
                              rotate_left
                              · intro w'
                                go_simp
                                with_reducible rfl
                              rotate_left
                              · simp only [Act.put, List.setIfInBounds_toArray, List.set_cons_zero, List.set_cons_succ, i64_w, i32_w]
                                rfl
                              refine pure_ (i := 16) (N := some 68) (v := ?_) (a' := ?_) #[true, true, true, true, true, true, true, true, true, true, true, true, true, true, true, true, true, false, false] rfl rfl (any_of HT_.out (by kernel_rfl)) (fun _ _ _ h => h) (Or.inl ⟨by rfl, ?_⟩) ?_ ?_
                              rotate_left
                              · intro w'
                                go_simp
                                with_reducible rfl
                              rotate_left
                              · simp only [Act.put, List.setIfInBounds_toArray, List.set_cons_zero, List.set_cons_succ, i64_w, i32_w]
                                rfl
                              refine pure_ (i := 17) (N := some 11) (v := ?_) (a' := ?_) #[true, true, true, true, true, true, true, true, true, true, true, true, true, true, true, true, true, true, false] rfl rfl (any_of HT_.out (by kernel_rfl)) (fun _ _ _ h => h) (Or.inl ⟨by rfl, ?_⟩) ?_ ?_
                              rotate_left
                              · intro w'
                                go_simp
                                with_reducible rfl
                              rotate_left
                              · simp only [Act.put, List.setIfInBounds_toArray, List.set_cons_zero, List.set_cons_succ, i64_w, i32_w]
                                rfl
                              refine pure_ (i := 18) (N := some 12) (v := ?_) (a' := ?_) #[true, true, true, true, true, true, true, true, true, true, true, true, true, true, true, true, true, true, true] rfl rfl (any_of HT_.out (by kernel_rfl)) (fun _ _ _ h => h) (Or.inl ⟨by rfl, ?_⟩) ?_ ?_
                              rotate_left
                              · intro w'
                                go_simp
                                with_reducible rfl
                              rotate_left
                              · simp only [Act.put, List.setIfInBounds_toArray, List.set_cons_zero, List.set_cons_succ, i64_w, i32_w]
                                rfl
                              refine done_ (done_of HT_.out (by kernel_rfl)) ?_
                              have hcz88_0 : w87.cell? ⟨gb294, 0, none⟩ = some (.int .i64 a4_0) := (blk_cell BK294.out 0).trans rfl
                              have hcz88_1 : w87.cell? ⟨gb294, 1, none⟩ = some (.int .i64 a4_1) := (blk_cell BK294.out 1).trans rfl
                              have hcz88_2 : w87.cell? ⟨gb294, 2, none⟩ = some (.int .i64 a4_2) := (blk_cell BK294.out 2).trans rfl
                              have hcz88_3 : w87.cell? ⟨gb294, 3, none⟩ = some (.int .i64 a4_3) := (blk_cell BK294.out 3).trans rfl
                              have hcz88_4 : w87.cell? ⟨gb294, 4, none⟩ = some (.int .i64 a4_4) := (blk_cell BK294.out 4).trans rfl
                              have hcz88_5 : w87.cell? ⟨gb294, 5, none⟩ = some (.int .i64 0) := (blk_cell BK294.out 5).trans rfl
                              have hfz88_0 := blk_frozen BK294.out 0
                              have hfz88_1 := blk_frozen BK294.out 1
                              have hfz88_2 := blk_frozen BK294.out 2
                              have hfz88_3 := blk_frozen BK294.out 3
                              have hfz88_4 := blk_frozen BK294.out 4
                              have hfz88_5 := blk_frozen BK294.out 5
                              try go_wp2_with (first | ((with_reducible refine gate_callee (f := 19) rfl ?_); refine goesL_ (some 70) rfl rfl Tryz.func19 (by kernel_rfl) rfl #[.agg #[.int .i64 a4_0, .int .i64 a4_1, .int .i64 a4_2, .int .i64 a4_3, .int .i64 a4_4, .int .i64 0]] rfl (by (try simp only [List.map_toArray, List.map_cons, List.map_nil]); first | done | rfl | (simp only [List.length_drop, List.length_take]; rfl)) ?_; (with_reducible refine (laws_moment.calls a4_0 a4_1 a4_2 a4_3 a4_4 0 t310 t311 t312 t313 t314 t315 _ A32.out).mono ?_); rintro e w89 ⟨rfl, hb⟩; refine ⟨_, rfl, ?_⟩; have n0_ := Aside0.mk (blk_below (g := gb294) (o := .cells #[.int .i64 a4_0, .int .i64 a4_1, .int .i64 a4_2, .int .i64 a4_3, .int .i64 a4_4, .int .i64 0] 26 (0, 0)) (by (with_reducible repeat (first | refine blk_drewN ?_ _ | refine blk_drew ?_ | refine blk_alloc ?_ _)); exact BK294.out) hb); have n1_ := Aside0.mk (below_step (by repeat (first | (with_reducible first | exact HB.out | apply below_alloc | apply pw_below_drewN | apply below_drew1 | refine below_set ?_ GE294.out) | exact HB.out)) hb); clear BK294; clear HB; have BK294 := n0_; have HB := n1_; clear n0_ n1_; (try clear hb); (try clear hb2); (try clear hk); (try clear hi)) | ((with_reducible refine gate_callee (f := 25) rfl ?_); refine goesL_ (some 71) rfl rfl Tryz.func25 (by kernel_rfl) rfl #[.agg #[.int .i64 t310, .int .i64 t311, .int .i64 t312, .int .i64 t313, .int .i64 t314, .int .i64 t315]] rfl (by (try simp only [List.map_toArray, List.map_cons, List.map_nil]); first | done | rfl | (simp only [List.length_drop, List.length_take]; rfl)) ?_; (with_reducible refine (laws_numbers.calls kj5 t310 t311 t312 t313 t314 t315 t316 t317 t318 t319 t320 t321 _ A33.out).mono ?_); rintro e w90 ⟨rfl, hb⟩; refine ⟨_, rfl, ?_⟩; have n0_ := Aside0.mk (blk_below (g := gb294) (o := .cells #[.int .i64 a4_0, .int .i64 a4_1, .int .i64 a4_2, .int .i64 a4_3, .int .i64 a4_4, .int .i64 0] 26 (0, 0)) (by (with_reducible repeat (first | refine blk_drewN ?_ _ | refine blk_drew ?_ | refine blk_alloc ?_ _)); exact BK294.out) hb); have n1_ := Aside0.mk (below_step (by repeat (first | (with_reducible first | exact HB.out | apply below_alloc | apply pw_below_drewN | apply below_drew1 | refine below_set ?_ GE294.out) | exact HB.out)) hb); clear BK294; clear HB; have BK294 := n0_; have HB := n1_; clear n0_ n1_; (try clear hb); (try clear hb2); (try clear hk); (try clear hi)))
                              go_ret
                              exact ⟨by first | rfl | (simp [errW_none, errW_some] <;> rfl) | (simp [*, errW_none, errW_some] <;> rfl), by repeat (first | (with_reducible first | exact HB.out | apply below_alloc | apply pw_below_drewN | apply below_drew1 | refine below_set ?_ GE294.out) | exact HB.out)⟩
                        · rw [if_neg c38] at H
                          have c38b0 : decide ((rd [t316, t317, t318, t319, t320, t321] a0) ≤ a2) = false := decide_eq_false c38
                          clear c38
                          obtain rfl := Option.some.inj H
                          have hcz91_0 : wc.cell? ⟨gb294, 0, none⟩ = some (.int .i64 a4_0) := (blk_cell BK294.out 0).trans rfl
                          have hcz91_1 : wc.cell? ⟨gb294, 1, none⟩ = some (.int .i64 a4_1) := (blk_cell BK294.out 1).trans rfl
                          have hcz91_2 : wc.cell? ⟨gb294, 2, none⟩ = some (.int .i64 a4_2) := (blk_cell BK294.out 2).trans rfl
                          have hcz91_3 : wc.cell? ⟨gb294, 3, none⟩ = some (.int .i64 a4_3) := (blk_cell BK294.out 3).trans rfl
                          have hcz91_4 : wc.cell? ⟨gb294, 4, none⟩ = some (.int .i64 a4_4) := (blk_cell BK294.out 4).trans rfl
                          have hcz91_5 : wc.cell? ⟨gb294, 5, none⟩ = some (.int .i64 a4_5) := (blk_cell BK294.out 5).trans rfl
                          have hfz91_0 := blk_frozen BK294.out 0
                          have hfz91_1 := blk_frozen BK294.out 1
                          have hfz91_2 := blk_frozen BK294.out 2
                          have hfz91_3 := blk_frozen BK294.out 3
                          have hfz91_4 := blk_frozen BK294.out 4
                          have hfz91_5 := blk_frozen BK294.out 5
                          try go_wp2
                          have n0_ : Aside0 ((wc.setCell ⟨gb294, 5, none⟩ (.int .i64 0)).heap[gb294]? = some (.cells #[.int .i64 a4_0, .int .i64 a4_1, .int .i64 a4_2, .int .i64 a4_3, .int .i64 a4_4, .int .i64 0] 26 (0, 0))) := ⟨by (with_reducible repeat (first | refine blk_drewN ?_ _ | refine blk_drew ?_ | refine blk_alloc ?_ _)); refine blk_put (cs := #[.int .i64 a4_0, .int .i64 a4_1, .int .i64 a4_2, .int .i64 a4_3, .int .i64 a4_4, .int .i64 a4_5]) ?_ 5 _ rfl; (with_reducible repeat (first | refine blk_drewN ?_ _ | refine blk_drew ?_ | refine blk_alloc ?_ _)); exact BK294.out⟩
                          have n1_ : Aside0 (Below w.heap.size w (wc.setCell ⟨gb294, 5, none⟩ (.int .i64 0))) := ⟨by repeat (first | (with_reducible first | exact HB.out | apply below_alloc | apply pw_below_drewN | apply below_drew1 | refine below_set ?_ GE294.out) | exact HB.out)⟩
                          (try clear BK294)
                          (try clear HB)
                          generalize (wc.setCell ⟨gb294, 5, none⟩ (.int .i64 0)) = w92 at n0_ n1_ ⊢
                          have BK294 := n0_
                          have HB := n1_
                          clear n0_ n1_
                          have n0_ := Aside0.mk (blk_drew BK294.out)
                          have n1_ := Aside0.mk (below_drew1 HB.out)
                          clear BK294
                          clear HB
                          have BK294 := n0_
                          have HB := n1_
                          clear n0_ n1_
                          refine start_ (n := 19) (S := fun w' => w'.cell? ⟨gb294, 0, none⟩ = some (.int .i64 a4_0) ∧ w'.cell? ⟨gb294, 1, none⟩ = some (.int .i64 a4_1) ∧ w'.cell? ⟨gb294, 2, none⟩ = some (.int .i64 a4_2) ∧ w'.cell? ⟨gb294, 3, none⟩ = some (.int .i64 a4_3) ∧ w'.cell? ⟨gb294, 4, none⟩ = some (.int .i64 a4_4) ∧ w'.cell? ⟨gb294, 5, none⟩ = some (.int .i64 0)) (ds := []) #[false, false, false, false, false, false, false, false, false, false, false, false, false, false, false, false, false, false, false] (by kernel_rfl) rfl rfl ⟨(blk_cell BK294.out 0).trans rfl, (blk_cell BK294.out 1).trans rfl, (blk_cell BK294.out 2).trans rfl, (blk_cell BK294.out 3).trans rfl, (blk_cell BK294.out 4).trans rfl, (blk_cell BK294.out 5).trans rfl⟩ (fun hHeld => ?_); refine with_tabW laws_FnStepRange.tab4 laws_FnStepRange.bits4 (fun HT_ HW_ => ?_)
                          generalize w92.drew = w93 at BK294 HB hHeld ⊢
                          refine pure_ (i := 0) (N := some 53) (v := ?_) (a' := ?_) #[true, false, false, false, false, false, false, false, false, false, false, false, false, false, false, false, false, false, false] rfl rfl (any_of HT_.out (by kernel_rfl)) (fun _ _ _ h => h) (Or.inl ⟨by rfl, ?_⟩) ?_ ?_
                          rotate_left
                          · intro w'
                            go_simp
                            with_reducible rfl
                          rotate_left
                          · simp only [Act.put, List.setIfInBounds_toArray, List.set_cons_zero, List.set_cons_succ, i64_w, i32_w]
                            rfl
                          refine pure_ (i := 1) (N := some 54) (v := ?_) (a' := ?_) #[true, true, false, false, false, false, false, false, false, false, false, false, false, false, false, false, false, false, false] rfl rfl (any_of HT_.out (by kernel_rfl)) (fun _ _ _ h => h) (Or.inl ⟨by rfl, ?_⟩) ?_ ?_
                          rotate_left
                          · intro w'
                            go_simp
                            with_reducible rfl
                          rotate_left
                          · simp only [Act.put, List.setIfInBounds_toArray, List.set_cons_zero, List.set_cons_succ, i64_w, i32_w]
                            rfl
                          refine pure_ (i := 4) (N := some 57) (v := ?_) (a' := ?_) #[true, true, false, false, true, false, false, false, false, false, false, false, false, false, false, false, false, false, false] rfl rfl (any_of HT_.out (by kernel_rfl)) (fun _ _ _ h => h) (Or.inl ⟨by rfl, ?_⟩) ?_ ?_
                          rotate_left
                          · intro w'
                            go_simp
                            with_reducible rfl
                          rotate_left
                          · simp only [Act.put, List.setIfInBounds_toArray, List.set_cons_zero, List.set_cons_succ, i64_w, i32_w]
                            rfl
                          refine pure_ (i := 8) (N := some 61) (v := ?_) (a' := ?_) #[true, true, false, false, true, false, false, false, true, false, false, false, false, false, false, false, false, false, false] rfl rfl (any_of HT_.out (by kernel_rfl)) (fun _ _ _ h => h) (Or.inl ⟨by rfl, ?_⟩) ?_ ?_
                          rotate_left
                          · intro w'
                            go_simp
                            with_reducible rfl
                          rotate_left
                          · simp only [Act.put, List.setIfInBounds_toArray, List.set_cons_zero, List.set_cons_succ, i64_w, i32_w]
                            rfl
                          refine take_ (i := 12) (N := some 65) (v := ?_) (a' := ?_) #[true, true, false, false, true, false, false, false, true, false, false, false, true, false, false, false, false, false, false] rfl rfl (take_ofW HT_.out HW_.out (by kernel_rfl)) (fun _ _ _ h => h) (Or.inl ⟨by rfl, ?_⟩) hHeld ?_ ?_
                          rotate_left
                          · rintro w' ⟨s0, s1, s2, s3, s4, s5⟩
                            go_simp
                            with_reducible rfl
                          rotate_left
                          · simp only [Act.put, List.setIfInBounds_toArray, List.set_cons_zero, List.set_cons_succ, i64_w, i32_w]
                            rfl
                          refine one_ (i := 2) (N := some 55) #[true, true, true, false, true, false, false, false, true, false, false, false, true, false, false, false, false, false, false] rfl rfl (one_of HT_.out (by kernel_rfl)) (by decide) (fun K hK => ?_)
                          refine goes_ Tryz.func24 (by kernel_rfl) rfl #[.int .i64 a1] (by rfl) rfl rfl (by (try simp only [List.map_toArray, List.map_cons, List.map_nil]); first | done | rfl | (simp only [List.length_drop, List.length_take]; rfl)) ?_
                          with_reducible refine (spec_Decimal.calls kj5 a1 t304 _ A23.out).mono ?_
                          rintro e w' ⟨rfl, ⟨nd, rfl⟩⟩
                          refine ⟨_, rfl, ?_⟩
                          refine hK.out _ _ ⟨(blk_cell BK294.out 0).trans rfl, (blk_cell BK294.out 1).trans rfl, (blk_cell BK294.out 2).trans rfl, (blk_cell BK294.out 3).trans rfl, (blk_cell BK294.out 4).trans rfl, (blk_cell BK294.out 5).trans rfl⟩ (fun hHeld => ?_)
                          clear hK K
                          refine norm_ (a' := ?_) ?_ ?_
                          rotate_left
                          · show Act.put _ (some 55) _ = _
                            simp only [Act.put, List.setIfInBounds_toArray, List.set_cons_zero, List.set_cons_succ, i64_w, i32_w]
                            rfl
                          refine pure_ (i := 3) (N := some 56) (v := ?_) (a' := ?_) #[true, true, true, true, true, false, false, false, true, false, false, false, true, false, false, false, false, false, false] rfl rfl (any_of HT_.out (by kernel_rfl)) (fun _ _ _ h => h) (Or.inl ⟨by rfl, ?_⟩) ?_ ?_
                          rotate_left
                          · intro w'
                            go_simp
                            with_reducible rfl
                          rotate_left
                          · simp only [Act.put, List.setIfInBounds_toArray, List.set_cons_zero, List.set_cons_succ, i64_w, i32_w]
                            rfl
                          refine one_ (i := 5) (N := some 58) #[true, true, true, true, true, true, false, false, true, false, false, false, true, false, false, false, false, false, false] rfl rfl (one_of HT_.out (by kernel_rfl)) (by decide) (fun K hK => ?_)
                          refine goes_ Tryz.func24 (by kernel_rfl) rfl #[.int .i64 a2] (by rfl) rfl rfl (by (try simp only [List.map_toArray, List.map_cons, List.map_nil]); first | done | rfl | (simp only [List.length_drop, List.length_take]; rfl)) ?_
                          with_reducible refine (spec_Decimal.calls kj5 a2 t305 _ A25.out).mono ?_
                          rintro e w' ⟨rfl, ⟨nd, rfl⟩⟩
                          refine ⟨_, rfl, ?_⟩
                          refine hK.out _ _ ⟨(blk_cell BK294.out 0).trans rfl, (blk_cell BK294.out 1).trans rfl, (blk_cell BK294.out 2).trans rfl, (blk_cell BK294.out 3).trans rfl, (blk_cell BK294.out 4).trans rfl, (blk_cell BK294.out 5).trans rfl⟩ (fun hHeld => ?_)
                          clear hK K
                          refine norm_ (a' := ?_) ?_ ?_
                          rotate_left
                          · show Act.put _ (some 58) _ = _
                            simp only [Act.put, List.setIfInBounds_toArray, List.set_cons_zero, List.set_cons_succ, i64_w, i32_w]
                            rfl
                          refine pure_ (i := 6) (N := some 59) (v := ?_) (a' := ?_) #[true, true, true, true, true, true, true, false, true, false, false, false, true, false, false, false, false, false, false] rfl rfl (any_of HT_.out (by kernel_rfl)) (fun _ _ _ h => h) (Or.inl ⟨by rfl, ?_⟩) ?_ ?_
                          rotate_left
                          · intro w'
                            go_simp
                            with_reducible rfl
                          rotate_left
                          · simp only [Act.put, List.setIfInBounds_toArray, List.set_cons_zero, List.set_cons_succ, i64_w, i32_w]
                            rfl
                          refine pure_ (i := 7) (N := some 60) (v := ?_) (a' := ?_) #[true, true, true, true, true, true, true, true, true, false, false, false, true, false, false, false, false, false, false] rfl rfl (any_of HT_.out (by kernel_rfl)) (fun _ _ _ h => h) (Or.inl ⟨by rfl, ?_⟩) ?_ ?_
                          rotate_left
                          · intro w'
                            go_simp
                            with_reducible rfl
                          rotate_left
                          · simp only [Act.put, List.setIfInBounds_toArray, List.set_cons_zero, List.set_cons_succ, i64_w, i32_w]
                            rfl
                          refine one_ (i := 9) (N := some 62) #[true, true, true, true, true, true, true, true, true, true, false, false, true, false, false, false, false, false, false] rfl rfl (one_of HT_.out (by kernel_rfl)) (by decide) (fun K hK => ?_)
                          refine goes_ Tryz.func24 (by kernel_rfl) rfl #[.int .i64 a3] (by rfl) rfl rfl (by (try simp only [List.map_toArray, List.map_cons, List.map_nil]); first | done | rfl | (simp only [List.length_drop, List.length_take]; rfl)) ?_
                          with_reducible refine (spec_Decimal.calls kj5 a3 t306 _ A28.out).mono ?_
                          rintro e w' ⟨rfl, ⟨nd, rfl⟩⟩
                          refine ⟨_, rfl, ?_⟩
                          refine hK.out _ _ ⟨(blk_cell BK294.out 0).trans rfl, (blk_cell BK294.out 1).trans rfl, (blk_cell BK294.out 2).trans rfl, (blk_cell BK294.out 3).trans rfl, (blk_cell BK294.out 4).trans rfl, (blk_cell BK294.out 5).trans rfl⟩ (fun hHeld => ?_)
                          clear hK K
                          refine norm_ (a' := ?_) ?_ ?_
                          rotate_left
                          · show Act.put _ (some 62) _ = _
                            simp only [Act.put, List.setIfInBounds_toArray, List.set_cons_zero, List.set_cons_succ, i64_w, i32_w]
                            rfl
                          refine pure_ (i := 10) (N := some 63) (v := ?_) (a' := ?_) #[true, true, true, true, true, true, true, true, true, true, true, false, true, false, false, false, false, false, false] rfl rfl (any_of HT_.out (by kernel_rfl)) (fun _ _ _ h => h) (Or.inl ⟨by rfl, ?_⟩) ?_ ?_
                          rotate_left
                          · intro w'
                            go_simp
                            with_reducible rfl
                          rotate_left
                          · simp only [Act.put, List.setIfInBounds_toArray, List.set_cons_zero, List.set_cons_succ, i64_w, i32_w]
                            rfl
                          refine one_ (i := 11) (N := some 64) #[true, true, true, true, true, true, true, true, true, true, true, true, true, false, false, false, false, false, false] rfl rfl (one_of HT_.out (by kernel_rfl)) (by decide) (fun K hK => ?_)
                          refine goes_ Tryz.func23 (by kernel_rfl) rfl #[.int .i64 a0, .string ((((t304 ++ (⟨#[45]⟩ : ByteArray)) ++ t305) ++ (⟨#[47]⟩ : ByteArray)) ++ t306)] (by rfl) rfl rfl (by (try simp only [List.map_toArray, List.map_cons, List.map_nil]); first | done | rfl | (simp only [List.length_drop, List.length_take]; rfl)) ?_
                          with_reducible refine (laws_stars.calls kj5 a0 ((((t304 ++ (⟨#[45]⟩ : ByteArray)) ++ t305) ++ (⟨#[47]⟩ : ByteArray)) ++ t306) t307 _ A30.out).mono ?_
                          rintro e w' ⟨rfl, ⟨nd, rfl⟩⟩
                          refine ⟨_, rfl, ?_⟩
                          refine hK.out _ _ ⟨(blk_cell BK294.out 0).trans rfl, (blk_cell BK294.out 1).trans rfl, (blk_cell BK294.out 2).trans rfl, (blk_cell BK294.out 3).trans rfl, (blk_cell BK294.out 4).trans rfl, (blk_cell BK294.out 5).trans rfl⟩ (fun hHeld => ?_)
                          clear hK K
                          refine norm_ (a' := ?_) ?_ ?_
                          rotate_left
                          · show Act.put _ (some 64) _ = _
                            simp only [Act.put, List.setIfInBounds_toArray, List.set_cons_zero, List.set_cons_succ, i64_w, i32_w]
                            rfl
                          refine one_ (i := 13) (N := some 66) #[true, true, true, true, true, true, true, true, true, true, true, true, true, true, false, false, false, false, false] rfl rfl (one_of HT_.out (by kernel_rfl)) (by decide) (fun K hK => ?_)
                          refine goes_ Tryz.func14 (by kernel_rfl) rfl #[.string t307, .agg #[.int .i64 a4_0, .int .i64 a4_1, .int .i64 a4_2, .int .i64 a4_3, .int .i64 a4_4, .int .i64 0]] (by rfl) rfl rfl (by (try simp only [List.map_toArray, List.map_cons, List.map_nil]); first | done | rfl | (simp only [List.length_drop, List.length_take]; rfl)) ?_
                          with_reducible refine (impl_Due.calls t307 a4_0 a4_1 a4_2 a4_3 a4_4 0 t308 true _ A31.out).mono ?_
                          rintro e w94 ⟨rfl, hb⟩
                          refine ⟨_, rfl, ?_⟩
                          have n0_ := Aside0.mk (blk_below (g := gb294) (o := .cells #[.int .i64 a4_0, .int .i64 a4_1, .int .i64 a4_2, .int .i64 a4_3, .int .i64 a4_4, .int .i64 0] 26 (0, 0)) (by (with_reducible repeat (first | refine blk_drewN ?_ _ | refine blk_drew ?_ | refine blk_alloc ?_ _)); exact BK294.out) hb)
                          have n1_ := Aside0.mk (below_step (by repeat (first | (with_reducible first | exact HB.out | apply below_alloc | apply pw_below_drewN | apply below_drew1 | refine below_set ?_ GE294.out) | exact HB.out)) hb)
                          clear BK294
                          clear HB
                          have BK294 := n0_
                          have HB := n1_
                          clear n0_ n1_
                          (try clear hb)
                          (try clear hb2)
                          (try clear hk)
                          (try clear hi)
                          refine hK.out _ _ ⟨(blk_cell BK294.out 0).trans rfl, (blk_cell BK294.out 1).trans rfl, (blk_cell BK294.out 2).trans rfl, (blk_cell BK294.out 3).trans rfl, (blk_cell BK294.out 4).trans rfl, (blk_cell BK294.out 5).trans rfl⟩ (fun hHeld => ?_)
                          clear hK K
                          refine norm_ (a' := ?_) ?_ ?_
                          rotate_left
                          · show Act.put _ (some 66) _ = _
                            simp only [Act.put, List.setIfInBounds_toArray, List.set_cons_zero, List.set_cons_succ, i64_w, i32_w]
                            rfl
                          refine pure_ (i := 14) (N := some 52) (v := ?_) (a' := ?_) #[true, true, true, true, true, true, true, true, true, true, true, true, true, true, true, false, false, false, false] rfl rfl (any_of HT_.out (by kernel_rfl)) (fun _ _ _ h => h) (Or.inl ⟨by rfl, ?_⟩) ?_ ?_
                          rotate_left
                          · intro w'
                            go_simp
                            with_reducible rfl
                          rotate_left
                          · simp only [Act.put, List.setIfInBounds_toArray, List.set_cons_zero, List.set_cons_succ, i64_w, i32_w]
                            rfl
                          refine pure_ (i := 15) (N := some 67) (v := ?_) (a' := ?_) #[true, true, true, true, true, true, true, true, true, true, true, true, true, true, true, true, false, false, false] rfl rfl (any_of HT_.out (by kernel_rfl)) (fun _ _ _ h => h) (Or.inl ⟨by rfl, ?_⟩) ?_ ?_
                          rotate_left
                          · intro w'
                            go_simp
                            with_reducible rfl
                          rotate_left
                          · simp only [Act.put, List.setIfInBounds_toArray, List.set_cons_zero, List.set_cons_succ, i64_w, i32_w]
                            rfl
                          refine pure_ (i := 16) (N := some 68) (v := ?_) (a' := ?_) #[true, true, true, true, true, true, true, true, true, true, true, true, true, true, true, true, true, false, false] rfl rfl (any_of HT_.out (by kernel_rfl)) (fun _ _ _ h => h) (Or.inl ⟨by rfl, ?_⟩) ?_ ?_
                          rotate_left
                          · intro w'
                            go_simp
                            with_reducible rfl
                          rotate_left
                          · simp only [Act.put, List.setIfInBounds_toArray, List.set_cons_zero, List.set_cons_succ, i64_w, i32_w]
                            rfl
                          refine pure_ (i := 17) (N := some 11) (v := ?_) (a' := ?_) #[true, true, true, true, true, true, true, true, true, true, true, true, true, true, true, true, true, true, false] rfl rfl (any_of HT_.out (by kernel_rfl)) (fun _ _ _ h => h) (Or.inl ⟨by rfl, ?_⟩) ?_ ?_
                          rotate_left
                          · intro w'
                            go_simp
                            with_reducible rfl
                          rotate_left
                          · simp only [Act.put, List.setIfInBounds_toArray, List.set_cons_zero, List.set_cons_succ, i64_w, i32_w]
                            rfl
                          refine pure_ (i := 18) (N := some 12) (v := ?_) (a' := ?_) #[true, true, true, true, true, true, true, true, true, true, true, true, true, true, true, true, true, true, true] rfl rfl (any_of HT_.out (by kernel_rfl)) (fun _ _ _ h => h) (Or.inl ⟨by rfl, ?_⟩) ?_ ?_
                          rotate_left
                          · intro w'
                            go_simp
                            with_reducible rfl
                          rotate_left
                          · simp only [Act.put, List.setIfInBounds_toArray, List.set_cons_zero, List.set_cons_succ, i64_w, i32_w]
                            rfl
                          refine done_ (done_of HT_.out (by kernel_rfl)) ?_
                          have hcz95_0 : w94.cell? ⟨gb294, 0, none⟩ = some (.int .i64 a4_0) := (blk_cell BK294.out 0).trans rfl
                          have hcz95_1 : w94.cell? ⟨gb294, 1, none⟩ = some (.int .i64 a4_1) := (blk_cell BK294.out 1).trans rfl
                          have hcz95_2 : w94.cell? ⟨gb294, 2, none⟩ = some (.int .i64 a4_2) := (blk_cell BK294.out 2).trans rfl
                          have hcz95_3 : w94.cell? ⟨gb294, 3, none⟩ = some (.int .i64 a4_3) := (blk_cell BK294.out 3).trans rfl
                          have hcz95_4 : w94.cell? ⟨gb294, 4, none⟩ = some (.int .i64 a4_4) := (blk_cell BK294.out 4).trans rfl
                          have hcz95_5 : w94.cell? ⟨gb294, 5, none⟩ = some (.int .i64 0) := (blk_cell BK294.out 5).trans rfl
                          have hfz95_0 := blk_frozen BK294.out 0
                          have hfz95_1 := blk_frozen BK294.out 1
                          have hfz95_2 := blk_frozen BK294.out 2
                          have hfz95_3 := blk_frozen BK294.out 3
                          have hfz95_4 := blk_frozen BK294.out 4
                          have hfz95_5 := blk_frozen BK294.out 5
                          try go_wp2_with (first | ((with_reducible refine gate_callee (f := 19) rfl ?_); refine goesL_ (some 70) rfl rfl Tryz.func19 (by kernel_rfl) rfl #[.agg #[.int .i64 a4_0, .int .i64 a4_1, .int .i64 a4_2, .int .i64 a4_3, .int .i64 a4_4, .int .i64 0]] rfl (by (try simp only [List.map_toArray, List.map_cons, List.map_nil]); first | done | rfl | (simp only [List.length_drop, List.length_take]; rfl)) ?_; (with_reducible refine (laws_moment.calls a4_0 a4_1 a4_2 a4_3 a4_4 0 t310 t311 t312 t313 t314 t315 _ A32.out).mono ?_); rintro e w96 ⟨rfl, hb⟩; refine ⟨_, rfl, ?_⟩; have n0_ := Aside0.mk (blk_below (g := gb294) (o := .cells #[.int .i64 a4_0, .int .i64 a4_1, .int .i64 a4_2, .int .i64 a4_3, .int .i64 a4_4, .int .i64 0] 26 (0, 0)) (by (with_reducible repeat (first | refine blk_drewN ?_ _ | refine blk_drew ?_ | refine blk_alloc ?_ _)); exact BK294.out) hb); have n1_ := Aside0.mk (below_step (by repeat (first | (with_reducible first | exact HB.out | apply below_alloc | apply pw_below_drewN | apply below_drew1 | refine below_set ?_ GE294.out) | exact HB.out)) hb); clear BK294; clear HB; have BK294 := n0_; have HB := n1_; clear n0_ n1_; (try clear hb); (try clear hb2); (try clear hk); (try clear hi)) | ((with_reducible refine gate_callee (f := 25) rfl ?_); refine goesL_ (some 71) rfl rfl Tryz.func25 (by kernel_rfl) rfl #[.agg #[.int .i64 t310, .int .i64 t311, .int .i64 t312, .int .i64 t313, .int .i64 t314, .int .i64 t315]] rfl (by (try simp only [List.map_toArray, List.map_cons, List.map_nil]); first | done | rfl | (simp only [List.length_drop, List.length_take]; rfl)) ?_; (with_reducible refine (laws_numbers.calls kj5 t310 t311 t312 t313 t314 t315 t316 t317 t318 t319 t320 t321 _ A33.out).mono ?_); rintro e w97 ⟨rfl, hb⟩; refine ⟨_, rfl, ?_⟩; have n0_ := Aside0.mk (blk_below (g := gb294) (o := .cells #[.int .i64 a4_0, .int .i64 a4_1, .int .i64 a4_2, .int .i64 a4_3, .int .i64 a4_4, .int .i64 0] 26 (0, 0)) (by (with_reducible repeat (first | refine blk_drewN ?_ _ | refine blk_drew ?_ | refine blk_alloc ?_ _)); exact BK294.out) hb); have n1_ := Aside0.mk (below_step (by repeat (first | (with_reducible first | exact HB.out | apply below_alloc | apply pw_below_drewN | apply below_drew1 | refine below_set ?_ GE294.out) | exact HB.out)) hb); clear BK294; clear HB; have BK294 := n0_; have HB := n1_; clear n0_ n1_; (try clear hb); (try clear hb2); (try clear hk); (try clear hi)))
                          go_ret
                          exact ⟨by first | rfl | (simp [errW_none, errW_some] <;> rfl) | (simp [*, errW_none, errW_some] <;> rfl), by repeat (first | (with_reducible first | exact HB.out | apply below_alloc | apply pw_below_drewN | apply below_drew1 | refine below_set ?_ GE294.out) | exact HB.out)⟩
                      · rw [if_neg c37] at H
                        have c37b0 : decide (a1 ≤ (rd [t316, t317, t318, t319, t320, t321] a0)) = false := decide_eq_false c37
                        clear c37
                        obtain rfl := Option.some.inj H
                        have hcz98_0 : wc.cell? ⟨gb294, 0, none⟩ = some (.int .i64 a4_0) := (blk_cell BK294.out 0).trans rfl
                        have hcz98_1 : wc.cell? ⟨gb294, 1, none⟩ = some (.int .i64 a4_1) := (blk_cell BK294.out 1).trans rfl
                        have hcz98_2 : wc.cell? ⟨gb294, 2, none⟩ = some (.int .i64 a4_2) := (blk_cell BK294.out 2).trans rfl
                        have hcz98_3 : wc.cell? ⟨gb294, 3, none⟩ = some (.int .i64 a4_3) := (blk_cell BK294.out 3).trans rfl
                        have hcz98_4 : wc.cell? ⟨gb294, 4, none⟩ = some (.int .i64 a4_4) := (blk_cell BK294.out 4).trans rfl
                        have hcz98_5 : wc.cell? ⟨gb294, 5, none⟩ = some (.int .i64 a4_5) := (blk_cell BK294.out 5).trans rfl
                        have hfz98_0 := blk_frozen BK294.out 0
                        have hfz98_1 := blk_frozen BK294.out 1
                        have hfz98_2 := blk_frozen BK294.out 2
                        have hfz98_3 := blk_frozen BK294.out 3
                        have hfz98_4 := blk_frozen BK294.out 4
                        have hfz98_5 := blk_frozen BK294.out 5
                        try go_wp2
                        have n0_ : Aside0 ((wc.setCell ⟨gb294, 5, none⟩ (.int .i64 0)).heap[gb294]? = some (.cells #[.int .i64 a4_0, .int .i64 a4_1, .int .i64 a4_2, .int .i64 a4_3, .int .i64 a4_4, .int .i64 0] 26 (0, 0))) := ⟨by (with_reducible repeat (first | refine blk_drewN ?_ _ | refine blk_drew ?_ | refine blk_alloc ?_ _)); refine blk_put (cs := #[.int .i64 a4_0, .int .i64 a4_1, .int .i64 a4_2, .int .i64 a4_3, .int .i64 a4_4, .int .i64 a4_5]) ?_ 5 _ rfl; (with_reducible repeat (first | refine blk_drewN ?_ _ | refine blk_drew ?_ | refine blk_alloc ?_ _)); exact BK294.out⟩
                        have n1_ : Aside0 (Below w.heap.size w (wc.setCell ⟨gb294, 5, none⟩ (.int .i64 0))) := ⟨by repeat (first | (with_reducible first | exact HB.out | apply below_alloc | apply pw_below_drewN | apply below_drew1 | refine below_set ?_ GE294.out) | exact HB.out)⟩
                        (try clear BK294)
                        (try clear HB)
                        generalize (wc.setCell ⟨gb294, 5, none⟩ (.int .i64 0)) = w99 at n0_ n1_ ⊢
                        have BK294 := n0_
                        have HB := n1_
                        clear n0_ n1_
                        have n0_ := Aside0.mk (blk_drew BK294.out)
                        have n1_ := Aside0.mk (below_drew1 HB.out)
                        clear BK294
                        clear HB
                        have BK294 := n0_
                        have HB := n1_
                        clear n0_ n1_
                        refine start_ (n := 19) (S := fun w' => w'.cell? ⟨gb294, 0, none⟩ = some (.int .i64 a4_0) ∧ w'.cell? ⟨gb294, 1, none⟩ = some (.int .i64 a4_1) ∧ w'.cell? ⟨gb294, 2, none⟩ = some (.int .i64 a4_2) ∧ w'.cell? ⟨gb294, 3, none⟩ = some (.int .i64 a4_3) ∧ w'.cell? ⟨gb294, 4, none⟩ = some (.int .i64 a4_4) ∧ w'.cell? ⟨gb294, 5, none⟩ = some (.int .i64 0)) (ds := []) #[false, false, false, false, false, false, false, false, false, false, false, false, false, false, false, false, false, false, false] (by kernel_rfl) rfl rfl ⟨(blk_cell BK294.out 0).trans rfl, (blk_cell BK294.out 1).trans rfl, (blk_cell BK294.out 2).trans rfl, (blk_cell BK294.out 3).trans rfl, (blk_cell BK294.out 4).trans rfl, (blk_cell BK294.out 5).trans rfl⟩ (fun hHeld => ?_); refine with_tabW laws_FnStepRange.tab4 laws_FnStepRange.bits4 (fun HT_ HW_ => ?_)
                        generalize w99.drew = w100 at BK294 HB hHeld ⊢
                        refine pure_ (i := 0) (N := some 53) (v := ?_) (a' := ?_) #[true, false, false, false, false, false, false, false, false, false, false, false, false, false, false, false, false, false, false] rfl rfl (any_of HT_.out (by kernel_rfl)) (fun _ _ _ h => h) (Or.inl ⟨by rfl, ?_⟩) ?_ ?_
                        rotate_left
                        · intro w'
                          go_simp
                          with_reducible rfl
                        rotate_left
                        · simp only [Act.put, List.setIfInBounds_toArray, List.set_cons_zero, List.set_cons_succ, i64_w, i32_w]
                          rfl
                        refine pure_ (i := 1) (N := some 54) (v := ?_) (a' := ?_) #[true, true, false, false, false, false, false, false, false, false, false, false, false, false, false, false, false, false, false] rfl rfl (any_of HT_.out (by kernel_rfl)) (fun _ _ _ h => h) (Or.inl ⟨by rfl, ?_⟩) ?_ ?_
                        rotate_left
                        · intro w'
                          go_simp
                          with_reducible rfl
                        rotate_left
                        · simp only [Act.put, List.setIfInBounds_toArray, List.set_cons_zero, List.set_cons_succ, i64_w, i32_w]
                          rfl
                        refine pure_ (i := 4) (N := some 57) (v := ?_) (a' := ?_) #[true, true, false, false, true, false, false, false, false, false, false, false, false, false, false, false, false, false, false] rfl rfl (any_of HT_.out (by kernel_rfl)) (fun _ _ _ h => h) (Or.inl ⟨by rfl, ?_⟩) ?_ ?_
                        rotate_left
                        · intro w'
                          go_simp
                          with_reducible rfl
                        rotate_left
                        · simp only [Act.put, List.setIfInBounds_toArray, List.set_cons_zero, List.set_cons_succ, i64_w, i32_w]
                          rfl
                        refine pure_ (i := 8) (N := some 61) (v := ?_) (a' := ?_) #[true, true, false, false, true, false, false, false, true, false, false, false, false, false, false, false, false, false, false] rfl rfl (any_of HT_.out (by kernel_rfl)) (fun _ _ _ h => h) (Or.inl ⟨by rfl, ?_⟩) ?_ ?_
                        rotate_left
                        · intro w'
                          go_simp
                          with_reducible rfl
                        rotate_left
                        · simp only [Act.put, List.setIfInBounds_toArray, List.set_cons_zero, List.set_cons_succ, i64_w, i32_w]
                          rfl
                        refine take_ (i := 12) (N := some 65) (v := ?_) (a' := ?_) #[true, true, false, false, true, false, false, false, true, false, false, false, true, false, false, false, false, false, false] rfl rfl (take_ofW HT_.out HW_.out (by kernel_rfl)) (fun _ _ _ h => h) (Or.inl ⟨by rfl, ?_⟩) hHeld ?_ ?_
                        rotate_left
                        · rintro w' ⟨s0, s1, s2, s3, s4, s5⟩
                          go_simp
                          with_reducible rfl
                        rotate_left
                        · simp only [Act.put, List.setIfInBounds_toArray, List.set_cons_zero, List.set_cons_succ, i64_w, i32_w]
                          rfl
                        refine one_ (i := 2) (N := some 55) #[true, true, true, false, true, false, false, false, true, false, false, false, true, false, false, false, false, false, false] rfl rfl (one_of HT_.out (by kernel_rfl)) (by decide) (fun K hK => ?_)
                        refine goes_ Tryz.func24 (by kernel_rfl) rfl #[.int .i64 a1] (by rfl) rfl rfl (by (try simp only [List.map_toArray, List.map_cons, List.map_nil]); first | done | rfl | (simp only [List.length_drop, List.length_take]; rfl)) ?_
                        with_reducible refine (spec_Decimal.calls kj5 a1 t304 _ A23.out).mono ?_
                        rintro e w' ⟨rfl, ⟨nd, rfl⟩⟩
                        refine ⟨_, rfl, ?_⟩
                        refine hK.out _ _ ⟨(blk_cell BK294.out 0).trans rfl, (blk_cell BK294.out 1).trans rfl, (blk_cell BK294.out 2).trans rfl, (blk_cell BK294.out 3).trans rfl, (blk_cell BK294.out 4).trans rfl, (blk_cell BK294.out 5).trans rfl⟩ (fun hHeld => ?_)
                        clear hK K
                        refine norm_ (a' := ?_) ?_ ?_
                        rotate_left
                        · show Act.put _ (some 55) _ = _
                          simp only [Act.put, List.setIfInBounds_toArray, List.set_cons_zero, List.set_cons_succ, i64_w, i32_w]
                          rfl
                        refine pure_ (i := 3) (N := some 56) (v := ?_) (a' := ?_) #[true, true, true, true, true, false, false, false, true, false, false, false, true, false, false, false, false, false, false] rfl rfl (any_of HT_.out (by kernel_rfl)) (fun _ _ _ h => h) (Or.inl ⟨by rfl, ?_⟩) ?_ ?_
                        rotate_left
                        · intro w'
                          go_simp
                          with_reducible rfl
                        rotate_left
                        · simp only [Act.put, List.setIfInBounds_toArray, List.set_cons_zero, List.set_cons_succ, i64_w, i32_w]
                          rfl
                        refine one_ (i := 5) (N := some 58) #[true, true, true, true, true, true, false, false, true, false, false, false, true, false, false, false, false, false, false] rfl rfl (one_of HT_.out (by kernel_rfl)) (by decide) (fun K hK => ?_)
                        refine goes_ Tryz.func24 (by kernel_rfl) rfl #[.int .i64 a2] (by rfl) rfl rfl (by (try simp only [List.map_toArray, List.map_cons, List.map_nil]); first | done | rfl | (simp only [List.length_drop, List.length_take]; rfl)) ?_
                        with_reducible refine (spec_Decimal.calls kj5 a2 t305 _ A25.out).mono ?_
                        rintro e w' ⟨rfl, ⟨nd, rfl⟩⟩
                        refine ⟨_, rfl, ?_⟩
                        refine hK.out _ _ ⟨(blk_cell BK294.out 0).trans rfl, (blk_cell BK294.out 1).trans rfl, (blk_cell BK294.out 2).trans rfl, (blk_cell BK294.out 3).trans rfl, (blk_cell BK294.out 4).trans rfl, (blk_cell BK294.out 5).trans rfl⟩ (fun hHeld => ?_)
                        clear hK K
                        refine norm_ (a' := ?_) ?_ ?_
                        rotate_left
                        · show Act.put _ (some 58) _ = _
                          simp only [Act.put, List.setIfInBounds_toArray, List.set_cons_zero, List.set_cons_succ, i64_w, i32_w]
                          rfl
                        refine pure_ (i := 6) (N := some 59) (v := ?_) (a' := ?_) #[true, true, true, true, true, true, true, false, true, false, false, false, true, false, false, false, false, false, false] rfl rfl (any_of HT_.out (by kernel_rfl)) (fun _ _ _ h => h) (Or.inl ⟨by rfl, ?_⟩) ?_ ?_
                        rotate_left
                        · intro w'
                          go_simp
                          with_reducible rfl
                        rotate_left
                        · simp only [Act.put, List.setIfInBounds_toArray, List.set_cons_zero, List.set_cons_succ, i64_w, i32_w]
                          rfl
                        refine pure_ (i := 7) (N := some 60) (v := ?_) (a' := ?_) #[true, true, true, true, true, true, true, true, true, false, false, false, true, false, false, false, false, false, false] rfl rfl (any_of HT_.out (by kernel_rfl)) (fun _ _ _ h => h) (Or.inl ⟨by rfl, ?_⟩) ?_ ?_
                        rotate_left
                        · intro w'
                          go_simp
                          with_reducible rfl
                        rotate_left
                        · simp only [Act.put, List.setIfInBounds_toArray, List.set_cons_zero, List.set_cons_succ, i64_w, i32_w]
                          rfl
                        refine one_ (i := 9) (N := some 62) #[true, true, true, true, true, true, true, true, true, true, false, false, true, false, false, false, false, false, false] rfl rfl (one_of HT_.out (by kernel_rfl)) (by decide) (fun K hK => ?_)
                        refine goes_ Tryz.func24 (by kernel_rfl) rfl #[.int .i64 a3] (by rfl) rfl rfl (by (try simp only [List.map_toArray, List.map_cons, List.map_nil]); first | done | rfl | (simp only [List.length_drop, List.length_take]; rfl)) ?_
                        with_reducible refine (spec_Decimal.calls kj5 a3 t306 _ A28.out).mono ?_
                        rintro e w' ⟨rfl, ⟨nd, rfl⟩⟩
                        refine ⟨_, rfl, ?_⟩
                        refine hK.out _ _ ⟨(blk_cell BK294.out 0).trans rfl, (blk_cell BK294.out 1).trans rfl, (blk_cell BK294.out 2).trans rfl, (blk_cell BK294.out 3).trans rfl, (blk_cell BK294.out 4).trans rfl, (blk_cell BK294.out 5).trans rfl⟩ (fun hHeld => ?_)
                        clear hK K
                        refine norm_ (a' := ?_) ?_ ?_
                        rotate_left
                        · show Act.put _ (some 62) _ = _
                          simp only [Act.put, List.setIfInBounds_toArray, List.set_cons_zero, List.set_cons_succ, i64_w, i32_w]
                          rfl
                        refine pure_ (i := 10) (N := some 63) (v := ?_) (a' := ?_) #[true, true, true, true, true, true, true, true, true, true, true, false, true, false, false, false, false, false, false] rfl rfl (any_of HT_.out (by kernel_rfl)) (fun _ _ _ h => h) (Or.inl ⟨by rfl, ?_⟩) ?_ ?_
                        rotate_left
                        · intro w'
                          go_simp
                          with_reducible rfl
                        rotate_left
                        · simp only [Act.put, List.setIfInBounds_toArray, List.set_cons_zero, List.set_cons_succ, i64_w, i32_w]
                          rfl
                        refine one_ (i := 11) (N := some 64) #[true, true, true, true, true, true, true, true, true, true, true, true, true, false, false, false, false, false, false] rfl rfl (one_of HT_.out (by kernel_rfl)) (by decide) (fun K hK => ?_)
                        refine goes_ Tryz.func23 (by kernel_rfl) rfl #[.int .i64 a0, .string ((((t304 ++ (⟨#[45]⟩ : ByteArray)) ++ t305) ++ (⟨#[47]⟩ : ByteArray)) ++ t306)] (by rfl) rfl rfl (by (try simp only [List.map_toArray, List.map_cons, List.map_nil]); first | done | rfl | (simp only [List.length_drop, List.length_take]; rfl)) ?_
                        with_reducible refine (laws_stars.calls kj5 a0 ((((t304 ++ (⟨#[45]⟩ : ByteArray)) ++ t305) ++ (⟨#[47]⟩ : ByteArray)) ++ t306) t307 _ A30.out).mono ?_
                        rintro e w' ⟨rfl, ⟨nd, rfl⟩⟩
                        refine ⟨_, rfl, ?_⟩
                        refine hK.out _ _ ⟨(blk_cell BK294.out 0).trans rfl, (blk_cell BK294.out 1).trans rfl, (blk_cell BK294.out 2).trans rfl, (blk_cell BK294.out 3).trans rfl, (blk_cell BK294.out 4).trans rfl, (blk_cell BK294.out 5).trans rfl⟩ (fun hHeld => ?_)
                        clear hK K
                        refine norm_ (a' := ?_) ?_ ?_
                        rotate_left
                        · show Act.put _ (some 64) _ = _
                          simp only [Act.put, List.setIfInBounds_toArray, List.set_cons_zero, List.set_cons_succ, i64_w, i32_w]
                          rfl
                        refine one_ (i := 13) (N := some 66) #[true, true, true, true, true, true, true, true, true, true, true, true, true, true, false, false, false, false, false] rfl rfl (one_of HT_.out (by kernel_rfl)) (by decide) (fun K hK => ?_)
                        refine goes_ Tryz.func14 (by kernel_rfl) rfl #[.string t307, .agg #[.int .i64 a4_0, .int .i64 a4_1, .int .i64 a4_2, .int .i64 a4_3, .int .i64 a4_4, .int .i64 0]] (by rfl) rfl rfl (by (try simp only [List.map_toArray, List.map_cons, List.map_nil]); first | done | rfl | (simp only [List.length_drop, List.length_take]; rfl)) ?_
                        with_reducible refine (impl_Due.calls t307 a4_0 a4_1 a4_2 a4_3 a4_4 0 t308 true _ A31.out).mono ?_
                        rintro e w101 ⟨rfl, hb⟩
                        refine ⟨_, rfl, ?_⟩
                        have n0_ := Aside0.mk (blk_below (g := gb294) (o := .cells #[.int .i64 a4_0, .int .i64 a4_1, .int .i64 a4_2, .int .i64 a4_3, .int .i64 a4_4, .int .i64 0] 26 (0, 0)) (by (with_reducible repeat (first | refine blk_drewN ?_ _ | refine blk_drew ?_ | refine blk_alloc ?_ _)); exact BK294.out) hb)
                        have n1_ := Aside0.mk (below_step (by repeat (first | (with_reducible first | exact HB.out | apply below_alloc | apply pw_below_drewN | apply below_drew1 | refine below_set ?_ GE294.out) | exact HB.out)) hb)
                        clear BK294
                        clear HB
                        have BK294 := n0_
                        have HB := n1_
                        clear n0_ n1_
                        (try clear hb)
                        (try clear hb2)
                        (try clear hk)
                        (try clear hi)
                        refine hK.out _ _ ⟨(blk_cell BK294.out 0).trans rfl, (blk_cell BK294.out 1).trans rfl, (blk_cell BK294.out 2).trans rfl, (blk_cell BK294.out 3).trans rfl, (blk_cell BK294.out 4).trans rfl, (blk_cell BK294.out 5).trans rfl⟩ (fun hHeld => ?_)
                        clear hK K
                        refine norm_ (a' := ?_) ?_ ?_
                        rotate_left
                        · show Act.put _ (some 66) _ = _
                          simp only [Act.put, List.setIfInBounds_toArray, List.set_cons_zero, List.set_cons_succ, i64_w, i32_w]
                          rfl
                        refine pure_ (i := 14) (N := some 52) (v := ?_) (a' := ?_) #[true, true, true, true, true, true, true, true, true, true, true, true, true, true, true, false, false, false, false] rfl rfl (any_of HT_.out (by kernel_rfl)) (fun _ _ _ h => h) (Or.inl ⟨by rfl, ?_⟩) ?_ ?_
                        rotate_left
                        · intro w'
                          go_simp
                          with_reducible rfl
                        rotate_left
                        · simp only [Act.put, List.setIfInBounds_toArray, List.set_cons_zero, List.set_cons_succ, i64_w, i32_w]
                          rfl
                        refine pure_ (i := 15) (N := some 67) (v := ?_) (a' := ?_) #[true, true, true, true, true, true, true, true, true, true, true, true, true, true, true, true, false, false, false] rfl rfl (any_of HT_.out (by kernel_rfl)) (fun _ _ _ h => h) (Or.inl ⟨by rfl, ?_⟩) ?_ ?_
                        rotate_left
                        · intro w'
                          go_simp
                          with_reducible rfl
                        rotate_left
                        · simp only [Act.put, List.setIfInBounds_toArray, List.set_cons_zero, List.set_cons_succ, i64_w, i32_w]
                          rfl
                        refine pure_ (i := 16) (N := some 68) (v := ?_) (a' := ?_) #[true, true, true, true, true, true, true, true, true, true, true, true, true, true, true, true, true, false, false] rfl rfl (any_of HT_.out (by kernel_rfl)) (fun _ _ _ h => h) (Or.inl ⟨by rfl, ?_⟩) ?_ ?_
                        rotate_left
                        · intro w'
                          go_simp
                          with_reducible rfl
                        rotate_left
                        · simp only [Act.put, List.setIfInBounds_toArray, List.set_cons_zero, List.set_cons_succ, i64_w, i32_w]
                          rfl
                        refine pure_ (i := 17) (N := some 11) (v := ?_) (a' := ?_) #[true, true, true, true, true, true, true, true, true, true, true, true, true, true, true, true, true, true, false] rfl rfl (any_of HT_.out (by kernel_rfl)) (fun _ _ _ h => h) (Or.inl ⟨by rfl, ?_⟩) ?_ ?_
                        rotate_left
                        · intro w'
                          go_simp
                          with_reducible rfl
                        rotate_left
                        · simp only [Act.put, List.setIfInBounds_toArray, List.set_cons_zero, List.set_cons_succ, i64_w, i32_w]
                          rfl
                        refine pure_ (i := 18) (N := some 12) (v := ?_) (a' := ?_) #[true, true, true, true, true, true, true, true, true, true, true, true, true, true, true, true, true, true, true] rfl rfl (any_of HT_.out (by kernel_rfl)) (fun _ _ _ h => h) (Or.inl ⟨by rfl, ?_⟩) ?_ ?_
                        rotate_left
                        · intro w'
                          go_simp
                          with_reducible rfl
                        rotate_left
                        · simp only [Act.put, List.setIfInBounds_toArray, List.set_cons_zero, List.set_cons_succ, i64_w, i32_w]
                          rfl
                        refine done_ (done_of HT_.out (by kernel_rfl)) ?_
                        have hcz102_0 : w101.cell? ⟨gb294, 0, none⟩ = some (.int .i64 a4_0) := (blk_cell BK294.out 0).trans rfl
                        have hcz102_1 : w101.cell? ⟨gb294, 1, none⟩ = some (.int .i64 a4_1) := (blk_cell BK294.out 1).trans rfl
                        have hcz102_2 : w101.cell? ⟨gb294, 2, none⟩ = some (.int .i64 a4_2) := (blk_cell BK294.out 2).trans rfl
                        have hcz102_3 : w101.cell? ⟨gb294, 3, none⟩ = some (.int .i64 a4_3) := (blk_cell BK294.out 3).trans rfl
                        have hcz102_4 : w101.cell? ⟨gb294, 4, none⟩ = some (.int .i64 a4_4) := (blk_cell BK294.out 4).trans rfl
                        have hcz102_5 : w101.cell? ⟨gb294, 5, none⟩ = some (.int .i64 0) := (blk_cell BK294.out 5).trans rfl
                        have hfz102_0 := blk_frozen BK294.out 0
                        have hfz102_1 := blk_frozen BK294.out 1
                        have hfz102_2 := blk_frozen BK294.out 2
                        have hfz102_3 := blk_frozen BK294.out 3
                        have hfz102_4 := blk_frozen BK294.out 4
                        have hfz102_5 := blk_frozen BK294.out 5
                        try go_wp2_with (first | ((with_reducible refine gate_callee (f := 19) rfl ?_); refine goesL_ (some 70) rfl rfl Tryz.func19 (by kernel_rfl) rfl #[.agg #[.int .i64 a4_0, .int .i64 a4_1, .int .i64 a4_2, .int .i64 a4_3, .int .i64 a4_4, .int .i64 0]] rfl (by (try simp only [List.map_toArray, List.map_cons, List.map_nil]); first | done | rfl | (simp only [List.length_drop, List.length_take]; rfl)) ?_; (with_reducible refine (laws_moment.calls a4_0 a4_1 a4_2 a4_3 a4_4 0 t310 t311 t312 t313 t314 t315 _ A32.out).mono ?_); rintro e w103 ⟨rfl, hb⟩; refine ⟨_, rfl, ?_⟩; have n0_ := Aside0.mk (blk_below (g := gb294) (o := .cells #[.int .i64 a4_0, .int .i64 a4_1, .int .i64 a4_2, .int .i64 a4_3, .int .i64 a4_4, .int .i64 0] 26 (0, 0)) (by (with_reducible repeat (first | refine blk_drewN ?_ _ | refine blk_drew ?_ | refine blk_alloc ?_ _)); exact BK294.out) hb); have n1_ := Aside0.mk (below_step (by repeat (first | (with_reducible first | exact HB.out | apply below_alloc | apply pw_below_drewN | apply below_drew1 | refine below_set ?_ GE294.out) | exact HB.out)) hb); clear BK294; clear HB; have BK294 := n0_; have HB := n1_; clear n0_ n1_; (try clear hb); (try clear hb2); (try clear hk); (try clear hi)) | ((with_reducible refine gate_callee (f := 25) rfl ?_); refine goesL_ (some 71) rfl rfl Tryz.func25 (by kernel_rfl) rfl #[.agg #[.int .i64 t310, .int .i64 t311, .int .i64 t312, .int .i64 t313, .int .i64 t314, .int .i64 t315]] rfl (by (try simp only [List.map_toArray, List.map_cons, List.map_nil]); first | done | rfl | (simp only [List.length_drop, List.length_take]; rfl)) ?_; (with_reducible refine (laws_numbers.calls kj5 t310 t311 t312 t313 t314 t315 t316 t317 t318 t319 t320 t321 _ A33.out).mono ?_); rintro e w104 ⟨rfl, hb⟩; refine ⟨_, rfl, ?_⟩; have n0_ := Aside0.mk (blk_below (g := gb294) (o := .cells #[.int .i64 a4_0, .int .i64 a4_1, .int .i64 a4_2, .int .i64 a4_3, .int .i64 a4_4, .int .i64 0] 26 (0, 0)) (by (with_reducible repeat (first | refine blk_drewN ?_ _ | refine blk_drew ?_ | refine blk_alloc ?_ _)); exact BK294.out) hb); have n1_ := Aside0.mk (below_step (by repeat (first | (with_reducible first | exact HB.out | apply below_alloc | apply pw_below_drewN | apply below_drew1 | refine below_set ?_ GE294.out) | exact HB.out)) hb); clear BK294; clear HB; have BK294 := n0_; have HB := n1_; clear n0_ n1_; (try clear hb); (try clear hb2); (try clear hk); (try clear hi)))
                        go_ret
                        exact ⟨by first | rfl | (simp [errW_none, errW_some] <;> rfl) | (simp [*, errW_none, errW_some] <;> rfl), by repeat (first | (with_reducible first | exact HB.out | apply below_alloc | apply pw_below_drewN | apply below_drew1 | refine below_set ?_ GE294.out) | exact HB.out)⟩
                    · replace c36 := Bool.eq_false_iff.mpr c36
                      subst c36
                      have H1 : (some false) = some r := by rw [if_neg (show ¬ (false = true) by decide)] at H; exact H
                      clear H
                      have H := H1
                      clear H1
                      obtain rfl := Option.some.inj H
                      have hcz105_0 : wc.cell? ⟨gb294, 0, none⟩ = some (.int .i64 a4_0) := (blk_cell BK294.out 0).trans rfl
                      have hcz105_1 : wc.cell? ⟨gb294, 1, none⟩ = some (.int .i64 a4_1) := (blk_cell BK294.out 1).trans rfl
                      have hcz105_2 : wc.cell? ⟨gb294, 2, none⟩ = some (.int .i64 a4_2) := (blk_cell BK294.out 2).trans rfl
                      have hcz105_3 : wc.cell? ⟨gb294, 3, none⟩ = some (.int .i64 a4_3) := (blk_cell BK294.out 3).trans rfl
                      have hcz105_4 : wc.cell? ⟨gb294, 4, none⟩ = some (.int .i64 a4_4) := (blk_cell BK294.out 4).trans rfl
                      have hcz105_5 : wc.cell? ⟨gb294, 5, none⟩ = some (.int .i64 a4_5) := (blk_cell BK294.out 5).trans rfl
                      have hfz105_0 := blk_frozen BK294.out 0
                      have hfz105_1 := blk_frozen BK294.out 1
                      have hfz105_2 := blk_frozen BK294.out 2
                      have hfz105_3 := blk_frozen BK294.out 3
                      have hfz105_4 := blk_frozen BK294.out 4
                      have hfz105_5 := blk_frozen BK294.out 5
                      try go_wp2
                      have n0_ : Aside0 ((wc.setCell ⟨gb294, 5, none⟩ (.int .i64 0)).heap[gb294]? = some (.cells #[.int .i64 a4_0, .int .i64 a4_1, .int .i64 a4_2, .int .i64 a4_3, .int .i64 a4_4, .int .i64 0] 26 (0, 0))) := ⟨by (with_reducible repeat (first | refine blk_drewN ?_ _ | refine blk_drew ?_ | refine blk_alloc ?_ _)); refine blk_put (cs := #[.int .i64 a4_0, .int .i64 a4_1, .int .i64 a4_2, .int .i64 a4_3, .int .i64 a4_4, .int .i64 a4_5]) ?_ 5 _ rfl; (with_reducible repeat (first | refine blk_drewN ?_ _ | refine blk_drew ?_ | refine blk_alloc ?_ _)); exact BK294.out⟩
                      have n1_ : Aside0 (Below w.heap.size w (wc.setCell ⟨gb294, 5, none⟩ (.int .i64 0))) := ⟨by repeat (first | (with_reducible first | exact HB.out | apply below_alloc | apply pw_below_drewN | apply below_drew1 | refine below_set ?_ GE294.out) | exact HB.out)⟩
                      (try clear BK294)
                      (try clear HB)
                      generalize (wc.setCell ⟨gb294, 5, none⟩ (.int .i64 0)) = w106 at n0_ n1_ ⊢
                      have BK294 := n0_
                      have HB := n1_
                      clear n0_ n1_
                      have n0_ := Aside0.mk (blk_drew BK294.out)
                      have n1_ := Aside0.mk (below_drew1 HB.out)
                      clear BK294
                      clear HB
                      have BK294 := n0_
                      have HB := n1_
                      clear n0_ n1_
                      refine start_ (n := 19) (S := fun w' => w'.cell? ⟨gb294, 0, none⟩ = some (.int .i64 a4_0) ∧ w'.cell? ⟨gb294, 1, none⟩ = some (.int .i64 a4_1) ∧ w'.cell? ⟨gb294, 2, none⟩ = some (.int .i64 a4_2) ∧ w'.cell? ⟨gb294, 3, none⟩ = some (.int .i64 a4_3) ∧ w'.cell? ⟨gb294, 4, none⟩ = some (.int .i64 a4_4) ∧ w'.cell? ⟨gb294, 5, none⟩ = some (.int .i64 0)) (ds := []) #[false, false, false, false, false, false, false, false, false, false, false, false, false, false, false, false, false, false, false] (by kernel_rfl) rfl rfl ⟨(blk_cell BK294.out 0).trans rfl, (blk_cell BK294.out 1).trans rfl, (blk_cell BK294.out 2).trans rfl, (blk_cell BK294.out 3).trans rfl, (blk_cell BK294.out 4).trans rfl, (blk_cell BK294.out 5).trans rfl⟩ (fun hHeld => ?_); refine with_tabW laws_FnStepRange.tab4 laws_FnStepRange.bits4 (fun HT_ HW_ => ?_)
                      generalize w106.drew = w107 at BK294 HB hHeld ⊢
                      refine pure_ (i := 0) (N := some 53) (v := ?_) (a' := ?_) #[true, false, false, false, false, false, false, false, false, false, false, false, false, false, false, false, false, false, false] rfl rfl (any_of HT_.out (by kernel_rfl)) (fun _ _ _ h => h) (Or.inl ⟨by rfl, ?_⟩) ?_ ?_
                      rotate_left
                      · intro w'
                        go_simp
                        with_reducible rfl
                      rotate_left
                      · simp only [Act.put, List.setIfInBounds_toArray, List.set_cons_zero, List.set_cons_succ, i64_w, i32_w]
                        rfl
                      refine pure_ (i := 1) (N := some 54) (v := ?_) (a' := ?_) #[true, true, false, false, false, false, false, false, false, false, false, false, false, false, false, false, false, false, false] rfl rfl (any_of HT_.out (by kernel_rfl)) (fun _ _ _ h => h) (Or.inl ⟨by rfl, ?_⟩) ?_ ?_
                      rotate_left
                      · intro w'
                        go_simp
                        with_reducible rfl
                      rotate_left
                      · simp only [Act.put, List.setIfInBounds_toArray, List.set_cons_zero, List.set_cons_succ, i64_w, i32_w]
                        rfl
                      refine pure_ (i := 4) (N := some 57) (v := ?_) (a' := ?_) #[true, true, false, false, true, false, false, false, false, false, false, false, false, false, false, false, false, false, false] rfl rfl (any_of HT_.out (by kernel_rfl)) (fun _ _ _ h => h) (Or.inl ⟨by rfl, ?_⟩) ?_ ?_
                      rotate_left
                      · intro w'
                        go_simp
                        with_reducible rfl
                      rotate_left
                      · simp only [Act.put, List.setIfInBounds_toArray, List.set_cons_zero, List.set_cons_succ, i64_w, i32_w]
                        rfl
                      refine pure_ (i := 8) (N := some 61) (v := ?_) (a' := ?_) #[true, true, false, false, true, false, false, false, true, false, false, false, false, false, false, false, false, false, false] rfl rfl (any_of HT_.out (by kernel_rfl)) (fun _ _ _ h => h) (Or.inl ⟨by rfl, ?_⟩) ?_ ?_
                      rotate_left
                      · intro w'
                        go_simp
                        with_reducible rfl
                      rotate_left
                      · simp only [Act.put, List.setIfInBounds_toArray, List.set_cons_zero, List.set_cons_succ, i64_w, i32_w]
                        rfl
                      refine take_ (i := 12) (N := some 65) (v := ?_) (a' := ?_) #[true, true, false, false, true, false, false, false, true, false, false, false, true, false, false, false, false, false, false] rfl rfl (take_ofW HT_.out HW_.out (by kernel_rfl)) (fun _ _ _ h => h) (Or.inl ⟨by rfl, ?_⟩) hHeld ?_ ?_
                      rotate_left
                      · rintro w' ⟨s0, s1, s2, s3, s4, s5⟩
                        go_simp
                        with_reducible rfl
                      rotate_left
                      · simp only [Act.put, List.setIfInBounds_toArray, List.set_cons_zero, List.set_cons_succ, i64_w, i32_w]
                        rfl
                      refine one_ (i := 2) (N := some 55) #[true, true, true, false, true, false, false, false, true, false, false, false, true, false, false, false, false, false, false] rfl rfl (one_of HT_.out (by kernel_rfl)) (by decide) (fun K hK => ?_)
                      refine goes_ Tryz.func24 (by kernel_rfl) rfl #[.int .i64 a1] (by rfl) rfl rfl (by (try simp only [List.map_toArray, List.map_cons, List.map_nil]); first | done | rfl | (simp only [List.length_drop, List.length_take]; rfl)) ?_
                      with_reducible refine (spec_Decimal.calls kj5 a1 t304 _ A23.out).mono ?_
                      rintro e w' ⟨rfl, ⟨nd, rfl⟩⟩
                      refine ⟨_, rfl, ?_⟩
                      refine hK.out _ _ ⟨(blk_cell BK294.out 0).trans rfl, (blk_cell BK294.out 1).trans rfl, (blk_cell BK294.out 2).trans rfl, (blk_cell BK294.out 3).trans rfl, (blk_cell BK294.out 4).trans rfl, (blk_cell BK294.out 5).trans rfl⟩ (fun hHeld => ?_)
                      clear hK K
                      refine norm_ (a' := ?_) ?_ ?_
                      rotate_left
                      · show Act.put _ (some 55) _ = _
                        simp only [Act.put, List.setIfInBounds_toArray, List.set_cons_zero, List.set_cons_succ, i64_w, i32_w]
                        rfl
                      refine pure_ (i := 3) (N := some 56) (v := ?_) (a' := ?_) #[true, true, true, true, true, false, false, false, true, false, false, false, true, false, false, false, false, false, false] rfl rfl (any_of HT_.out (by kernel_rfl)) (fun _ _ _ h => h) (Or.inl ⟨by rfl, ?_⟩) ?_ ?_
                      rotate_left
                      · intro w'
                        go_simp
                        with_reducible rfl
                      rotate_left
                      · simp only [Act.put, List.setIfInBounds_toArray, List.set_cons_zero, List.set_cons_succ, i64_w, i32_w]
                        rfl
                      refine one_ (i := 5) (N := some 58) #[true, true, true, true, true, true, false, false, true, false, false, false, true, false, false, false, false, false, false] rfl rfl (one_of HT_.out (by kernel_rfl)) (by decide) (fun K hK => ?_)
                      refine goes_ Tryz.func24 (by kernel_rfl) rfl #[.int .i64 a2] (by rfl) rfl rfl (by (try simp only [List.map_toArray, List.map_cons, List.map_nil]); first | done | rfl | (simp only [List.length_drop, List.length_take]; rfl)) ?_
                      with_reducible refine (spec_Decimal.calls kj5 a2 t305 _ A25.out).mono ?_
                      rintro e w' ⟨rfl, ⟨nd, rfl⟩⟩
                      refine ⟨_, rfl, ?_⟩
                      refine hK.out _ _ ⟨(blk_cell BK294.out 0).trans rfl, (blk_cell BK294.out 1).trans rfl, (blk_cell BK294.out 2).trans rfl, (blk_cell BK294.out 3).trans rfl, (blk_cell BK294.out 4).trans rfl, (blk_cell BK294.out 5).trans rfl⟩ (fun hHeld => ?_)
                      clear hK K
                      refine norm_ (a' := ?_) ?_ ?_
                      rotate_left
                      · show Act.put _ (some 58) _ = _
                        simp only [Act.put, List.setIfInBounds_toArray, List.set_cons_zero, List.set_cons_succ, i64_w, i32_w]
                        rfl
                      refine pure_ (i := 6) (N := some 59) (v := ?_) (a' := ?_) #[true, true, true, true, true, true, true, false, true, false, false, false, true, false, false, false, false, false, false] rfl rfl (any_of HT_.out (by kernel_rfl)) (fun _ _ _ h => h) (Or.inl ⟨by rfl, ?_⟩) ?_ ?_
                      rotate_left
                      · intro w'
                        go_simp
                        with_reducible rfl
                      rotate_left
                      · simp only [Act.put, List.setIfInBounds_toArray, List.set_cons_zero, List.set_cons_succ, i64_w, i32_w]
                        rfl
                      refine pure_ (i := 7) (N := some 60) (v := ?_) (a' := ?_) #[true, true, true, true, true, true, true, true, true, false, false, false, true, false, false, false, false, false, false] rfl rfl (any_of HT_.out (by kernel_rfl)) (fun _ _ _ h => h) (Or.inl ⟨by rfl, ?_⟩) ?_ ?_
                      rotate_left
                      · intro w'
                        go_simp
                        with_reducible rfl
                      rotate_left
                      · simp only [Act.put, List.setIfInBounds_toArray, List.set_cons_zero, List.set_cons_succ, i64_w, i32_w]
                        rfl
                      refine one_ (i := 9) (N := some 62) #[true, true, true, true, true, true, true, true, true, true, false, false, true, false, false, false, false, false, false] rfl rfl (one_of HT_.out (by kernel_rfl)) (by decide) (fun K hK => ?_)
                      refine goes_ Tryz.func24 (by kernel_rfl) rfl #[.int .i64 a3] (by rfl) rfl rfl (by (try simp only [List.map_toArray, List.map_cons, List.map_nil]); first | done | rfl | (simp only [List.length_drop, List.length_take]; rfl)) ?_
                      with_reducible refine (spec_Decimal.calls kj5 a3 t306 _ A28.out).mono ?_
                      rintro e w' ⟨rfl, ⟨nd, rfl⟩⟩
                      refine ⟨_, rfl, ?_⟩
                      refine hK.out _ _ ⟨(blk_cell BK294.out 0).trans rfl, (blk_cell BK294.out 1).trans rfl, (blk_cell BK294.out 2).trans rfl, (blk_cell BK294.out 3).trans rfl, (blk_cell BK294.out 4).trans rfl, (blk_cell BK294.out 5).trans rfl⟩ (fun hHeld => ?_)
                      clear hK K
                      refine norm_ (a' := ?_) ?_ ?_
                      rotate_left
                      · show Act.put _ (some 62) _ = _
                        simp only [Act.put, List.setIfInBounds_toArray, List.set_cons_zero, List.set_cons_succ, i64_w, i32_w]
                        rfl
                      refine pure_ (i := 10) (N := some 63) (v := ?_) (a' := ?_) #[true, true, true, true, true, true, true, true, true, true, true, false, true, false, false, false, false, false, false] rfl rfl (any_of HT_.out (by kernel_rfl)) (fun _ _ _ h => h) (Or.inl ⟨by rfl, ?_⟩) ?_ ?_
                      rotate_left
                      · intro w'
                        go_simp
                        with_reducible rfl
                      rotate_left
                      · simp only [Act.put, List.setIfInBounds_toArray, List.set_cons_zero, List.set_cons_succ, i64_w, i32_w]
                        rfl
                      refine one_ (i := 11) (N := some 64) #[true, true, true, true, true, true, true, true, true, true, true, true, true, false, false, false, false, false, false] rfl rfl (one_of HT_.out (by kernel_rfl)) (by decide) (fun K hK => ?_)
                      refine goes_ Tryz.func23 (by kernel_rfl) rfl #[.int .i64 a0, .string ((((t304 ++ (⟨#[45]⟩ : ByteArray)) ++ t305) ++ (⟨#[47]⟩ : ByteArray)) ++ t306)] (by rfl) rfl rfl (by (try simp only [List.map_toArray, List.map_cons, List.map_nil]); first | done | rfl | (simp only [List.length_drop, List.length_take]; rfl)) ?_
                      with_reducible refine (laws_stars.calls kj5 a0 ((((t304 ++ (⟨#[45]⟩ : ByteArray)) ++ t305) ++ (⟨#[47]⟩ : ByteArray)) ++ t306) t307 _ A30.out).mono ?_
                      rintro e w' ⟨rfl, ⟨nd, rfl⟩⟩
                      refine ⟨_, rfl, ?_⟩
                      refine hK.out _ _ ⟨(blk_cell BK294.out 0).trans rfl, (blk_cell BK294.out 1).trans rfl, (blk_cell BK294.out 2).trans rfl, (blk_cell BK294.out 3).trans rfl, (blk_cell BK294.out 4).trans rfl, (blk_cell BK294.out 5).trans rfl⟩ (fun hHeld => ?_)
                      clear hK K
                      refine norm_ (a' := ?_) ?_ ?_
                      rotate_left
                      · show Act.put _ (some 64) _ = _
                        simp only [Act.put, List.setIfInBounds_toArray, List.set_cons_zero, List.set_cons_succ, i64_w, i32_w]
                        rfl
                      refine one_ (i := 13) (N := some 66) #[true, true, true, true, true, true, true, true, true, true, true, true, true, true, false, false, false, false, false] rfl rfl (one_of HT_.out (by kernel_rfl)) (by decide) (fun K hK => ?_)
                      refine goes_ Tryz.func14 (by kernel_rfl) rfl #[.string t307, .agg #[.int .i64 a4_0, .int .i64 a4_1, .int .i64 a4_2, .int .i64 a4_3, .int .i64 a4_4, .int .i64 0]] (by rfl) rfl rfl (by (try simp only [List.map_toArray, List.map_cons, List.map_nil]); first | done | rfl | (simp only [List.length_drop, List.length_take]; rfl)) ?_
                      with_reducible refine (impl_Due.calls t307 a4_0 a4_1 a4_2 a4_3 a4_4 0 t308 false _ A31.out).mono ?_
                      rintro e w108 ⟨rfl, hb⟩
                      refine ⟨_, rfl, ?_⟩
                      have n0_ := Aside0.mk (blk_below (g := gb294) (o := .cells #[.int .i64 a4_0, .int .i64 a4_1, .int .i64 a4_2, .int .i64 a4_3, .int .i64 a4_4, .int .i64 0] 26 (0, 0)) (by (with_reducible repeat (first | refine blk_drewN ?_ _ | refine blk_drew ?_ | refine blk_alloc ?_ _)); exact BK294.out) hb)
                      have n1_ := Aside0.mk (below_step (by repeat (first | (with_reducible first | exact HB.out | apply below_alloc | apply pw_below_drewN | apply below_drew1 | refine below_set ?_ GE294.out) | exact HB.out)) hb)
                      clear BK294
                      clear HB
                      have BK294 := n0_
                      have HB := n1_
                      clear n0_ n1_
                      (try clear hb)
                      (try clear hb2)
                      (try clear hk)
                      (try clear hi)
                      refine hK.out _ _ ⟨(blk_cell BK294.out 0).trans rfl, (blk_cell BK294.out 1).trans rfl, (blk_cell BK294.out 2).trans rfl, (blk_cell BK294.out 3).trans rfl, (blk_cell BK294.out 4).trans rfl, (blk_cell BK294.out 5).trans rfl⟩ (fun hHeld => ?_)
                      clear hK K
                      refine norm_ (a' := ?_) ?_ ?_
                      rotate_left
                      · show Act.put _ (some 66) _ = _
                        simp only [Act.put, List.setIfInBounds_toArray, List.set_cons_zero, List.set_cons_succ, i64_w, i32_w]
                        rfl
                      refine pure_ (i := 14) (N := some 52) (v := ?_) (a' := ?_) #[true, true, true, true, true, true, true, true, true, true, true, true, true, true, true, false, false, false, false] rfl rfl (any_of HT_.out (by kernel_rfl)) (fun _ _ _ h => h) (Or.inl ⟨by rfl, ?_⟩) ?_ ?_
                      rotate_left
                      · intro w'
                        go_simp
                        with_reducible rfl
                      rotate_left
                      · simp only [Act.put, List.setIfInBounds_toArray, List.set_cons_zero, List.set_cons_succ, i64_w, i32_w]
                        rfl
                      refine pure_ (i := 15) (N := some 67) (v := ?_) (a' := ?_) #[true, true, true, true, true, true, true, true, true, true, true, true, true, true, true, true, false, false, false] rfl rfl (any_of HT_.out (by kernel_rfl)) (fun _ _ _ h => h) (Or.inl ⟨by rfl, ?_⟩) ?_ ?_
                      rotate_left
                      · intro w'
                        go_simp
                        with_reducible rfl
                      rotate_left
                      · simp only [Act.put, List.setIfInBounds_toArray, List.set_cons_zero, List.set_cons_succ, i64_w, i32_w]
                        rfl
                      refine pure_ (i := 16) (N := some 68) (v := ?_) (a' := ?_) #[true, true, true, true, true, true, true, true, true, true, true, true, true, true, true, true, true, false, false] rfl rfl (any_of HT_.out (by kernel_rfl)) (fun _ _ _ h => h) (Or.inl ⟨by rfl, ?_⟩) ?_ ?_
                      rotate_left
                      · intro w'
                        go_simp
                        with_reducible rfl
                      rotate_left
                      · simp only [Act.put, List.setIfInBounds_toArray, List.set_cons_zero, List.set_cons_succ, i64_w, i32_w]
                        rfl
                      refine pure_ (i := 17) (N := some 11) (v := ?_) (a' := ?_) #[true, true, true, true, true, true, true, true, true, true, true, true, true, true, true, true, true, true, false] rfl rfl (any_of HT_.out (by kernel_rfl)) (fun _ _ _ h => h) (Or.inl ⟨by rfl, ?_⟩) ?_ ?_
                      rotate_left
                      · intro w'
                        go_simp
                        with_reducible rfl
                      rotate_left
                      · simp only [Act.put, List.setIfInBounds_toArray, List.set_cons_zero, List.set_cons_succ, i64_w, i32_w]
                        rfl
                      refine pure_ (i := 18) (N := some 12) (v := ?_) (a' := ?_) #[true, true, true, true, true, true, true, true, true, true, true, true, true, true, true, true, true, true, true] rfl rfl (any_of HT_.out (by kernel_rfl)) (fun _ _ _ h => h) (Or.inl ⟨by rfl, ?_⟩) ?_ ?_
                      rotate_left
                      · intro w'
                        go_simp
                        with_reducible rfl
                      rotate_left
                      · simp only [Act.put, List.setIfInBounds_toArray, List.set_cons_zero, List.set_cons_succ, i64_w, i32_w]
                        rfl
                      refine done_ (done_of HT_.out (by kernel_rfl)) ?_
                      have hcz109_0 : w108.cell? ⟨gb294, 0, none⟩ = some (.int .i64 a4_0) := (blk_cell BK294.out 0).trans rfl
                      have hcz109_1 : w108.cell? ⟨gb294, 1, none⟩ = some (.int .i64 a4_1) := (blk_cell BK294.out 1).trans rfl
                      have hcz109_2 : w108.cell? ⟨gb294, 2, none⟩ = some (.int .i64 a4_2) := (blk_cell BK294.out 2).trans rfl
                      have hcz109_3 : w108.cell? ⟨gb294, 3, none⟩ = some (.int .i64 a4_3) := (blk_cell BK294.out 3).trans rfl
                      have hcz109_4 : w108.cell? ⟨gb294, 4, none⟩ = some (.int .i64 a4_4) := (blk_cell BK294.out 4).trans rfl
                      have hcz109_5 : w108.cell? ⟨gb294, 5, none⟩ = some (.int .i64 0) := (blk_cell BK294.out 5).trans rfl
                      have hfz109_0 := blk_frozen BK294.out 0
                      have hfz109_1 := blk_frozen BK294.out 1
                      have hfz109_2 := blk_frozen BK294.out 2
                      have hfz109_3 := blk_frozen BK294.out 3
                      have hfz109_4 := blk_frozen BK294.out 4
                      have hfz109_5 := blk_frozen BK294.out 5
                      try go_wp2_with (first | ((with_reducible refine gate_callee (f := 19) rfl ?_); refine goesL_ (some 70) rfl rfl Tryz.func19 (by kernel_rfl) rfl #[.agg #[.int .i64 a4_0, .int .i64 a4_1, .int .i64 a4_2, .int .i64 a4_3, .int .i64 a4_4, .int .i64 0]] rfl (by (try simp only [List.map_toArray, List.map_cons, List.map_nil]); first | done | rfl | (simp only [List.length_drop, List.length_take]; rfl)) ?_; (with_reducible refine (laws_moment.calls a4_0 a4_1 a4_2 a4_3 a4_4 0 t310 t311 t312 t313 t314 t315 _ A32.out).mono ?_); rintro e w110 ⟨rfl, hb⟩; refine ⟨_, rfl, ?_⟩; have n0_ := Aside0.mk (blk_below (g := gb294) (o := .cells #[.int .i64 a4_0, .int .i64 a4_1, .int .i64 a4_2, .int .i64 a4_3, .int .i64 a4_4, .int .i64 0] 26 (0, 0)) (by (with_reducible repeat (first | refine blk_drewN ?_ _ | refine blk_drew ?_ | refine blk_alloc ?_ _)); exact BK294.out) hb); have n1_ := Aside0.mk (below_step (by repeat (first | (with_reducible first | exact HB.out | apply below_alloc | apply pw_below_drewN | apply below_drew1 | refine below_set ?_ GE294.out) | exact HB.out)) hb); clear BK294; clear HB; have BK294 := n0_; have HB := n1_; clear n0_ n1_; (try clear hb); (try clear hb2); (try clear hk); (try clear hi)) | ((with_reducible refine gate_callee (f := 25) rfl ?_); refine goesL_ (some 71) rfl rfl Tryz.func25 (by kernel_rfl) rfl #[.agg #[.int .i64 t310, .int .i64 t311, .int .i64 t312, .int .i64 t313, .int .i64 t314, .int .i64 t315]] rfl (by (try simp only [List.map_toArray, List.map_cons, List.map_nil]); first | done | rfl | (simp only [List.length_drop, List.length_take]; rfl)) ?_; (with_reducible refine (laws_numbers.calls kj5 t310 t311 t312 t313 t314 t315 t316 t317 t318 t319 t320 t321 _ A33.out).mono ?_); rintro e w111 ⟨rfl, hb⟩; refine ⟨_, rfl, ?_⟩; have n0_ := Aside0.mk (blk_below (g := gb294) (o := .cells #[.int .i64 a4_0, .int .i64 a4_1, .int .i64 a4_2, .int .i64 a4_3, .int .i64 a4_4, .int .i64 0] 26 (0, 0)) (by (with_reducible repeat (first | refine blk_drewN ?_ _ | refine blk_drew ?_ | refine blk_alloc ?_ _)); exact BK294.out) hb); have n1_ := Aside0.mk (below_step (by repeat (first | (with_reducible first | exact HB.out | apply below_alloc | apply pw_below_drewN | apply below_drew1 | refine below_set ?_ GE294.out) | exact HB.out)) hb); clear BK294; clear HB; have BK294 := n0_; have HB := n1_; clear n0_ n1_; (try clear hb); (try clear hb2); (try clear hk); (try clear hi)))
                      go_ret
                      exact ⟨by first | rfl | (simp [errW_none, errW_some] <;> rfl) | (simp [*, errW_none, errW_some] <;> rfl), by repeat (first | (with_reducible first | exact HB.out | apply below_alloc | apply pw_below_drewN | apply below_drew1 | refine below_set ?_ GE294.out) | exact HB.out)⟩
                  · rw [if_neg c35] at H
                    exact absurd H (by simp)
                · rw [if_neg c34] at H
                  exact absurd H (by simp)
              · rw [if_neg c29] at H
                exact absurd H (by simp)
            · rw [if_neg c27] at H
              exact absurd H (by simp)
          · rw [if_neg c26] at H
            exact absurd H (by simp)
        · rw [if_neg c24] at H
          exact absurd H (by simp)
end Go.Proofs.YtemgofomhjabpaaGreatDoor.Core
namespace Go.Proofs.YtemgofomhjabpaaGreatDoor.Core
open Go.RowKit Go.Proofs.YtemgofomhjabpaaGreatDoorW.PrintWords Go.Proofs.YtemgofomhjabpaaGreatDoorW.PrintLast Go.Proofs.YtemgofomhjabpaaGreatDoorW.PrintMore
attribute [local go_sem] max2_int min2_int max_two min_two max_three min_three max_four min_four   -- for this text's walks alone
set_option linter.unusedVariables false
set_option linter.unusedSimpArgs false
theorem eqA38 (d : Nat) (w : World) (x0 y0 : Bool) (x1 y1 : Int) (x2 y2 : Int) (x3 y3 : Int) :
    (Op.equalIn (d + 2) 38 (.agg #[.bool x0, .int .i64 x1, .int .i64 x2, .int .i64 x3]) (.agg #[.bool y0, .int .i64 y1, .int .i64 y2, .int .i64 y3])).run Tryz.prog w = .ok (x0 == y0 && (x1 == y1 && (x2 == y2 && (x3 == y3)))) w := by
  refine eqA_of Tryz.underlying38 (by kernel_rfl) ?_
  refine eqf_cons (by rfl) (by go_simp; rfl) (by go_simp; rfl) (by go_simp) ?_
  refine eqf_cons (by rfl) (by go_simp; rfl) (by go_simp; rfl) (by go_simp) ?_
  refine eqf_cons (by rfl) (by go_simp; rfl) (by go_simp; rfl) (by go_simp) ?_
  exact eqf_last (by rfl) (by go_simp; rfl) (by go_simp; rfl) (by go_simp)
end Go.Proofs.YtemgofomhjabpaaGreatDoor.Core
namespace Go.Proofs.YtemgofomhjabpaaGreatDoor.Core
open Go.RowKit Go.Proofs.YtemgofomhjabpaaGreatDoorW.PrintWords Go.Proofs.YtemgofomhjabpaaGreatDoorW.PrintLast Go.Proofs.YtemgofomhjabpaaGreatDoorW.PrintMore
attribute [local go_sem] max2_int min2_int max_two min_two max_three min_three max_four min_four   -- for this text's walks alone
set_option linter.unusedVariables false
set_option linter.unusedSimpArgs false
end Go.Proofs.YtemgofomhjabpaaGreatDoor.Core
namespace Go.Proofs.YtemgofomhjabpaaGreatDoor.Core
open Go.RowKit Go.Proofs.YtemgofomhjabpaaGreatDoorW.PrintWords Go.Proofs.YtemgofomhjabpaaGreatDoorW.PrintLast Go.Proofs.YtemgofomhjabpaaGreatDoorW.PrintMore
attribute [local go_sem] max2_int min2_int max_two min_two max_three min_three max_four min_four   -- for this text's walks alone
set_option linter.unusedVariables false
set_option linter.unusedSimpArgs false
end Go.Proofs.YtemgofomhjabpaaGreatDoor.Core
namespace Go.Proofs.YtemgofomhjabpaaGreatDoor.Core
open Go.RowKit Go.Proofs.YtemgofomhjabpaaGreatDoorW.PrintWords Go.Proofs.YtemgofomhjabpaaGreatDoorW.PrintLast Go.Proofs.YtemgofomhjabpaaGreatDoorW.PrintMore
attribute [local go_sem] max2_int min2_int max_two min_two max_three min_three max_four min_four   -- for this text's walks alone
set_option linter.unusedVariables false
set_option linter.unusedSimpArgs false
attribute [local go_sem high] eqA38
end Go.Proofs.YtemgofomhjabpaaGreatDoor.Core
namespace Go.Proofs.YtemgofomhjabpaaGreatDoor.Core
open Go.RowKit Go.Proofs.YtemgofomhjabpaaGreatDoorW.PrintWords Go.Proofs.YtemgofomhjabpaaGreatDoorW.PrintLast Go.Proofs.YtemgofomhjabpaaGreatDoorW.PrintMore
attribute [local go_sem] max2_int min2_int max_two min_two max_three min_three max_four min_four   -- for this text's walks alone
set_option linter.unusedVariables false
set_option linter.unusedSimpArgs false
end Go.Proofs.YtemgofomhjabpaaGreatDoor.Core
