/- Contracts and plain lemmas of this seat (part 3), merged by wip/merge2.py; what is proved stands in the claim's last text. -/
import Derived.Test.YtemgofomhjabpaaGreatDoorCYea1
import Derived.Test.YtemgofomhjabpaaGreatDoorCYea2
namespace Go.Proofs.YtemgofomhjabpaaGreatDoor.Core
open Go.RowKit Go.Proofs.YtemgofomhjabpaaGreatDoorW.PrintWords Go.Proofs.YtemgofomhjabpaaGreatDoorW.PrintLast Go.Proofs.YtemgofomhjabpaaGreatDoorW.PrintMore
attribute [local go_sem] max2_int min2_int max_two min_two max_three min_three max_four min_four   -- for this text's walks alone
set_option linter.unusedVariables false
set_option linter.unusedSimpArgs false
def spec_DayFits.f (k : Nat) (l0_0 : List (List (S38))) (a0_1 : Bool) (a1_0 : Int) (a1_1 : Int) (a1_2 : Int) (a1_3 : Int) (a1_4 : Int) (a1_5 : Int) : Option (Bool) := if 3 < (l0_0.length : Int) then ((spec_Has.f k 3 (rd_L5 l0_0 3) a1_2).bind fun t176 => (if t176 = true then (if 4 < (l0_0.length : Int) then ((spec_Has.f k 4 (rd_L5 l0_0 4) a1_1).bind fun t178 => (if t178 = true then (if 5 < (l0_0.length : Int) then ((spec_Weekday.f k a1_0 a1_1 a1_2).bind fun t180 => ((spec_Has.f k 5 (rd_L5 l0_0 5) t180).bind fun t181 => (some t181))) else (none)) else (some false))) else (none)) else (some false))) else (none)
def spec_DayFits.T1 : Bool × List (List Nat × List Nat) := (true, [([], []), ([0], [0]), ([1], [1]), ([2], [2]), ([], []), ([4], [4]), ([3, 5], [3, 5]), ([6, 6], [6]), ([7], [7]), ([8, 7], [7, 8]), ([9, 7], [7, 9]), ([10, 7], [7, 10]), ([7], [7]), ([12, 7], [7, 12]), ([11, 13, 7, 7], [7, 11, 13]), ([7, 14], [7, 14]), ([15, 14], [15]), ([16], [16]), ([17, 16], [16, 17]), ([18, 16], [16, 18]), ([19, 16], [16, 19]), ([16], [16]), ([21, 16], [16, 21]), ([16], [16]), ([23, 16], [16, 23]), ([16], [16]), ([25, 16], [16, 25]), ([22, 24, 26, 16, 16], [16, 22, 24, 26]), ([20, 27, 27, 16], [16, 20, 27]), ([16, 28], [16, 28]), ([29, 28, 0, 1, 2, 3, 4, 5, 6, 7, 8, 9, 10, 11, 12, 13, 14, 15, 16, 17, 18, 19, 20, 21, 22, 23, 24, 25, 26, 27, 28, 29], [29])])
def spec_DayFits.B1 : List Nat := [0, 1, 3, 7, 0, 16, 63, 127, 255, 511, 1023, 2047, 255, 4351, 16383, 32767, 65535, 131071, 262143, 524287, 1048575, 131071, 2228223, 131071, 8519679, 131071, 33685503, 132251647, 268435455, 536870911, 1073741823]
theorem spec_DayFits.tab1 : rtab .any (opsOf Tryz.f35 1) = spec_DayFits.T1 := by kernel_rfl
theorem spec_DayFits.bits1 : waitsOk spec_DayFits.T1.2 spec_DayFits.B1 = true := by kernel_rfl
set_option maxHeartbeats 8000000 in
set_option maxRecDepth 100000 in
theorem spec_DayFits.calls (k : Nat) (A0_0 : Option Addr) (c0_0 : Nat) (l0_0 : List (List (S38))) (a0_1 : Bool) (a1_0 : Int) (a1_1 : Int) (a1_2 : Int) (a1_3 : Int) (a1_4 : Int) (a1_5 : Int) (r : Bool) (w : World) (hr0_0 : Kd.C (Kd.slice 38 k38) w A0_0 l0_0.length l0_0) (hc0_0 : l0_0.length ≤ c0_0) (h : spec_DayFits.f k l0_0 a0_1 a1_0 a1_1 a1_2 a1_3 a1_4 a1_5 = some r) :
  Calls Tryz.prog 35 #[.agg #[.slice A0_0 l0_0.length c0_0, .bool a0_1], .agg #[.int .i64 a1_0, .int .i64 a1_1, .int .i64 a1_2, .int .i64 a1_3, .int .i64 a1_4, .int .i64 a1_5]] w fun e w' => e = .returned (.bool r) ∧ Below w.heap.size w w' := by
 have hu30 := Tryz.underlying30
 have hu43 := Tryz.underlying43
 have HR0_0 := Aside0.mk hr0_0
 have HC0_0 := Aside0.mk hc0_0
 clear hr0_0 hc0_0
 have HB := Aside0.mk (Below.refl w.heap.size w)
 have H : (if 3 < (l0_0.length : Int) then ((spec_Has.f k 3 (rd_L5 l0_0 3) a1_2).bind fun t176 => (if t176 = true then (if 4 < (l0_0.length : Int) then ((spec_Has.f k 4 (rd_L5 l0_0 4) a1_1).bind fun t178 => (if t178 = true then (if 5 < (l0_0.length : Int) then ((spec_Weekday.f k a1_0 a1_1 a1_2).bind fun t180 => ((spec_Has.f k 5 (rd_L5 l0_0 5) t180).bind fun t181 => (some t181))) else (none)) else (some false))) else (none)) else (some false))) else (none)) = some r := h
 clear h
 by_cases c3 : 3 < (l0_0.length : Int)
 ·rw [if_pos c3] at H
  have c3b0 : decide (3 < (l0_0.length : Int)) = true := decide_eq_true c3
  have c3b1 : decide (3 < l0_0.length) = true := decide_eq_true (by omega)
  clear c3
  replace H := Option.bind_eq_some_iff.mp H
  obtain ⟨t176, A40, H⟩ := H
  replace H : (if t176 = true then (if 4 < (l0_0.length : Int) then ((spec_Has.f k 4 (rd_L5 l0_0 4) a1_1).bind fun t178 => (if t178 = true then (if 5 < (l0_0.length : Int) then ((spec_Weekday.f k a1_0 a1_1 a1_2).bind fun t180 => ((spec_Has.f k 5 (rd_L5 l0_0 5) t180).bind fun t181 => (some t181))) else (none)) else (some false))) else (none)) else (some false)) = some r := H
  have A4 := Aside0.mk A40
  clear A40
  by_cases c5 : t176 = true
  ·subst c5
   have H1 : (if 4 < (l0_0.length : Int) then ((spec_Has.f k 4 (rd_L5 l0_0 4) a1_1).bind fun t178 => (if t178 = true then (if 5 < (l0_0.length : Int) then ((spec_Weekday.f k a1_0 a1_1 a1_2).bind fun t180 => ((spec_Has.f k 5 (rd_L5 l0_0 5) t180).bind fun t181 => (some t181))) else (none)) else (some false))) else (none)) = some r := by rw [if_pos rfl] at H; exact H
   clear H
   have H := H1
   clear H1
   by_cases c6 : 4 < (l0_0.length : Int)
   ·rw [if_pos c6] at H
    have c6b0 : decide (4 < (l0_0.length : Int)) = true := decide_eq_true c6
    have c6b1 : decide (4 < l0_0.length) = true := decide_eq_true (by omega)
    clear c6
    replace H := Option.bind_eq_some_iff.mp H
    obtain ⟨t178, A70, H⟩ := H
    replace H : (if t178 = true then (if 5 < (l0_0.length : Int) then ((spec_Weekday.f k a1_0 a1_1 a1_2).bind fun t180 => ((spec_Has.f k 5 (rd_L5 l0_0 5) t180).bind fun t181 => (some t181))) else (none)) else (some false)) = some r := H
    have A7 := Aside0.mk A70
    clear A70
    by_cases c8 : t178 = true
    ·subst c8
     have H1 : (if 5 < (l0_0.length : Int) then ((spec_Weekday.f k a1_0 a1_1 a1_2).bind fun t180 => ((spec_Has.f k 5 (rd_L5 l0_0 5) t180).bind fun t181 => (some t181))) else (none)) = some r := by rw [if_pos rfl] at H; exact H
     clear H
     have H := H1
     clear H1
     by_cases c9 : 5 < (l0_0.length : Int)
     ·rw [if_pos c9] at H
      have c9b0 : decide (5 < (l0_0.length : Int)) = true := decide_eq_true c9
      have c9b1 : decide (5 < l0_0.length) = true := decide_eq_true (by omega)
      clear c9
      replace H := Option.bind_eq_some_iff.mp H
      obtain ⟨t180, A100, H⟩ := H
      replace H : ((spec_Has.f k 5 (rd_L5 l0_0 5) t180).bind fun t181 => (some t181)) = some r := H
      have A10 := Aside0.mk A100
      clear A100
      replace H := Option.bind_eq_some_iff.mp H
      obtain ⟨t181, A110, H⟩ := H
      replace H : (some t181) = some r := H
      have A11 := Aside0.mk A110
      clear A110
      obtain rfl := Option.some.inj H
      go_enter Tryz.func35, Tryz.ntmps35
      try go_wp2_with (first | ((with_reducible refine gate_dst (N := 2) rfl ?_); refine box_event ?hg (N := 2) ?hd (cs := #[.slice A0_0 l0_0.length c0_0, .bool a0_1]) (t := 30) ?hr ?_; (case hd => rfl); (case hg => rfl); (case hr => first | (go_simp; done) | (go_simp; rfl)); intro gb173 hg w12 hbox hb; have n0_ := Aside0.mk (below_step (by repeat (first | (with_reducible first | exact HB.out | apply below_alloc | apply pw_below_drewN | apply below_drew1) | exact HB.out)) hb); have n1_ := Aside0.mk (hbox); have n2_ := Aside0.mk ((by rw [hg]; exact (below_size (by repeat (first | (with_reducible first | exact HB.out | apply below_alloc | apply pw_below_drewN | apply below_drew1) | exact HB.out))) : w.heap.size ≤ gb173)); have n3_ := Aside0.mk ((by rw [hg]; exact (below_size (by repeat (first | (with_reducible first | exact HB.out | apply below_alloc | apply pw_below_drewN | apply below_drew1) | exact HB.out))) : w.heap.size ≤ gb173)); clear HB; have HB := n0_; have BK173 := n1_; have GW173 := n2_; have GE173 := n3_; clear n0_ n1_ n2_ n3_; clear hb hbox hg) | ((with_reducible refine gate_dst (N := 3) rfl ?_); refine box_event ?hg (N := 3) ?hd (cs := #[.int .i64 a1_0, .int .i64 a1_1, .int .i64 a1_2, .int .i64 a1_3, .int .i64 a1_4, .int .i64 a1_5]) (t := 43) ?hr ?_; (case hd => rfl); (case hg => rfl); (case hr => first | (go_simp; done) | (go_simp; rfl)); intro gb174 hg w13 hbox hb; have n0_ := Aside0.mk (blk_below (g := gb173) (o := .cells #[.slice A0_0 l0_0.length c0_0, .bool a0_1] 30 (0, 0)) (by (with_reducible repeat (first | refine blk_drewN ?_ _ | refine blk_drew ?_ | refine blk_alloc ?_ _)); exact BK173.out) hb); have n1_ := Aside0.mk (below_step (by repeat (first | (with_reducible first | exact HB.out | apply below_alloc | apply pw_below_drewN | apply below_drew1 | refine below_set ?_ GE173.out) | exact HB.out)) hb); have n2_ := Aside0.mk (hbox); have n3_ := Aside0.mk ((by rw [hg]; exact (below_size (by repeat (first | (with_reducible first | exact HB.out | apply below_alloc | apply pw_below_drewN | apply below_drew1 | refine below_set ?_ GE173.out) | exact HB.out))) : w.heap.size ≤ gb174)); have n4_ := Aside0.mk ((by rw [hg]; exact (below_size (by repeat (first | (with_reducible first | exact HB.out | apply below_alloc | apply pw_below_drewN | apply below_drew1 | refine below_set ?_ GE173.out) | exact HB.out))) : w.heap.size ≤ gb174)); have n5_ := Aside0.mk ((by rw [hg]; exact Nat.ne_of_lt (blk_lt (g := gb173) (o := .cells #[.slice A0_0 l0_0.length c0_0, .bool a0_1] 30 (0, 0)) (by (with_reducible repeat (first | refine blk_drewN ?_ _ | refine blk_drew ?_ | refine blk_alloc ?_ _)); exact BK173.out)) : gb173 ≠ gb174)); have n6_ := Aside0.mk ((by rw [hg]; exact Nat.ne_of_gt (blk_lt (g := gb173) (o := .cells #[.slice A0_0 l0_0.length c0_0, .bool a0_1] 30 (0, 0)) (by (with_reducible repeat (first | refine blk_drewN ?_ _ | refine blk_drew ?_ | refine blk_alloc ?_ _)); exact BK173.out)) : gb174 ≠ gb173)); clear BK173; clear HB; have BK173 := n0_; have HB := n1_; have BK174 := n2_; have GW174 := n3_; have GE174 := n4_; have NB173_174 := n5_; have NB174_173 := n6_; clear n0_ n1_ n2_ n3_ n4_ n5_ n6_; clear hb hbox hg))
      have n0_ := Aside0.mk (blk_drew BK173.out)
      have n1_ := Aside0.mk (blk_drew BK174.out)
      have n2_ := Aside0.mk (below_drew1 HB.out)
      clear BK173
      clear BK174
      clear HB
      have BK173 := n0_
      have BK174 := n1_
      have HB := n2_
      clear n0_ n1_ n2_
      have p175 : 0 ≤ (3 : Int) := (by omega)
      have q175 : 3 < (l0_0.length : Int) := of_decide_eq_true (by first | (with_reducible assumption) | assumption)
      obtain ⟨ad175, A175_0, c175_0, e175, hx175_0, hl175_0, hi175_0⟩ := at_L5 HR0_0.out 3 p175 q175
      have hw175_0 := hx175_0
      (try rw [show ((3 : Int)).toNat = 3 from rfl] at hw175_0)
      (try rw [show 3 * 1 = 3 from rfl] at hw175_0)
      (try simp only [Nat.reduceMul, Nat.reduceEqDiff, Go.Addr.add, ↓reduceIte] at hw175_0)
      cases e175
      (try simp only [show (3 : Int).toNat = 3 from rfl, Nat.reduceMul, Nat.reduceEqDiff, Go.Addr.add, ↓reduceIte] at hx175_0)
      have qi175 : (3 < l0_0.length) = True := eq_true (by omega)
      (try rw [show ((3 : Int)).toNat = 3 from rfl] at hx175_0)
      replace hx175_0 := (HB.out.cell (World.block_lt_of_cell? w _ hx175_0)).trans hx175_0
      have HR175_0 := Aside0.mk hi175_0
      have HC175_0 := Aside0.mk hl175_0
      clear hi175_0 hl175_0
      replace p175 := eq_true p175
      replace q175 := eq_true q175
      have p177 : 0 ≤ (4 : Int) := (by omega)
      have q177 : 4 < (l0_0.length : Int) := of_decide_eq_true (by first | (with_reducible assumption) | assumption)
      obtain ⟨ad177, A177_0, c177_0, e177, hx177_0, hl177_0, hi177_0⟩ := at_L5 HR0_0.out 4 p177 q177
      have hw177_0 := hx177_0
      (try rw [show ((4 : Int)).toNat = 4 from rfl] at hw177_0)
      (try rw [show 4 * 1 = 4 from rfl] at hw177_0)
      (try simp only [Nat.reduceMul, Nat.reduceEqDiff, Go.Addr.add, ↓reduceIte] at hw177_0)
      obtain rfl : ad175 = ad177 := (by injection e177)
      (try simp only [show (4 : Int).toNat = 4 from rfl, Nat.reduceMul, Nat.reduceEqDiff, Go.Addr.add, ↓reduceIte] at hx177_0)
      have qi177 : (4 < l0_0.length) = True := eq_true (by omega)
      (try rw [show ((4 : Int)).toNat = 4 from rfl] at hx177_0)
      replace hx177_0 := (HB.out.cell (World.block_lt_of_cell? w _ hx177_0)).trans hx177_0
      have HR177_0 := Aside0.mk hi177_0
      have HC177_0 := Aside0.mk hl177_0
      clear hi177_0 hl177_0
      replace p177 := eq_true p177
      replace q177 := eq_true q177
      have p179 : 0 ≤ (5 : Int) := (by omega)
      have q179 : 5 < (l0_0.length : Int) := of_decide_eq_true (by first | (with_reducible assumption) | assumption)
      obtain ⟨ad179, A179_0, c179_0, e179, hx179_0, hl179_0, hi179_0⟩ := at_L5 HR0_0.out 5 p179 q179
      have hw179_0 := hx179_0
      (try rw [show ((5 : Int)).toNat = 5 from rfl] at hw179_0)
      (try rw [show 5 * 1 = 5 from rfl] at hw179_0)
      (try simp only [Nat.reduceMul, Nat.reduceEqDiff, Go.Addr.add, ↓reduceIte] at hw179_0)
      obtain rfl : ad175 = ad179 := (by injection e179)
      (try simp only [show (5 : Int).toNat = 5 from rfl, Nat.reduceMul, Nat.reduceEqDiff, Go.Addr.add, ↓reduceIte] at hx179_0)
      have qi179 : (5 < l0_0.length) = True := eq_true (by omega)
      (try rw [show ((5 : Int)).toNat = 5 from rfl] at hx179_0)
      replace hx179_0 := (HB.out.cell (World.block_lt_of_cell? w _ hx179_0)).trans hx179_0
      have HR179_0 := Aside0.mk hi179_0
      have HC179_0 := Aside0.mk hl179_0
      clear hi179_0 hl179_0
      replace p179 := eq_true p179
      replace q179 := eq_true q179
      refine start_ (n := 31) (S := fun w' => w'.cell? ⟨gb173, 0, none⟩ = some (.slice (some ad175) l0_0.length c0_0) ∧ w'.cell? ⟨gb173, 1, none⟩ = some (.bool a0_1) ∧ w'.cell? ⟨gb174, 0, none⟩ = some (.int .i64 a1_0) ∧ w'.cell? ⟨gb174, 1, none⟩ = some (.int .i64 a1_1) ∧ w'.cell? ⟨gb174, 2, none⟩ = some (.int .i64 a1_2) ∧ w'.cell? ⟨gb174, 3, none⟩ = some (.int .i64 a1_3) ∧ w'.cell? ⟨gb174, 4, none⟩ = some (.int .i64 a1_4) ∧ w'.cell? ⟨gb174, 5, none⟩ = some (.int .i64 a1_5) ∧ w'.cell? ⟨ad175.block, ad175.off + 3, none⟩ = some (.slice A175_0 (rd_L5 l0_0 3).length c175_0) ∧ w'.cell? ⟨ad175.block, ad175.off + 4, none⟩ = some (.slice A177_0 (rd_L5 l0_0 4).length c177_0) ∧ w'.cell? ⟨ad175.block, ad175.off + 5, none⟩ = some (.slice A179_0 (rd_L5 l0_0 5).length c179_0)) (ds := []) #[false, false, false, false, false, false, false, false, false, false, false, false, false, false, false, false, false, false, false, false, false, false, false, false, false, false, false, false, false, false, false] (by kernel_rfl) rfl rfl ⟨(blk_cell BK173.out 0).trans rfl, (blk_cell BK173.out 1).trans rfl, (blk_cell BK174.out 0).trans rfl, (blk_cell BK174.out 1).trans rfl, (blk_cell BK174.out 2).trans rfl, (blk_cell BK174.out 3).trans rfl, (blk_cell BK174.out 4).trans rfl, (blk_cell BK174.out 5).trans rfl, ((HB.out.cell (World.block_lt_of_cell? w _ hw175_0)).trans hw175_0), ((HB.out.cell (World.block_lt_of_cell? w _ hw177_0)).trans hw177_0), ((HB.out.cell (World.block_lt_of_cell? w _ hw179_0)).trans hw179_0)⟩ (fun hHeld => ?_); refine with_tabW spec_DayFits.tab1 spec_DayFits.bits1 (fun HT_ HW_ => ?_)
      generalize w13.drew = w14 at BK173 BK174 HB HR175_0 HR177_0 HR179_0 hx175_0 hx177_0 hx179_0 hHeld ⊢
      refine pure_ (i := 0) (N := some 5) (v := ?_) (a' := ?_) #[true, false, false, false, false, false, false, false, false, false, false, false, false, false, false, false, false, false, false, false, false, false, false, false, false, false, false, false, false, false, false] rfl rfl (any_of HT_.out (by kernel_rfl)) (fun _ _ _ h => h) (Or.inl ⟨by rfl, ?_⟩) ?_ ?_
      rotate_left
      ·intro w'
       go_simp
       with_reducible rfl
      rotate_left
      ·simp only [Act.put, List.setIfInBounds_toArray, List.set_cons_zero, List.set_cons_succ, i64_w, i32_w]
       rfl
      refine pure_ (i := 4) (N := some 9) (v := ?_) (a' := ?_) #[true, false, false, false, true, false, false, false, false, false, false, false, false, false, false, false, false, false, false, false, false, false, false, false, false, false, false, false, false, false, false] rfl rfl (any_of HT_.out (by kernel_rfl)) (fun _ _ _ h => h) (Or.inl ⟨by rfl, ?_⟩) ?_ ?_
      rotate_left
      ·intro w'
       go_simp
       with_reducible rfl
      rotate_left
      ·simp only [Act.put, List.setIfInBounds_toArray, List.set_cons_zero, List.set_cons_succ, i64_w, i32_w]
       rfl
      refine take_ (i := 1) (N := some 6) (v := ?_) (a' := ?_) #[true, true, false, false, true, false, false, false, false, false, false, false, false, false, false, false, false, false, false, false, false, false, false, false, false, false, false, false, false, false, false] rfl rfl (take_ofW HT_.out HW_.out (by kernel_rfl)) (fun _ _ _ h => h) (Or.inl ⟨by rfl, ?_⟩) hHeld ?_ ?_
      rotate_left
      ·rintro w' ⟨s0, s1, s2, s3, s4, s5, s6, s7, s8, s9, s10⟩
       go_simp
       with_reducible rfl
      rotate_left
      ·simp only [Act.put, List.setIfInBounds_toArray, List.set_cons_zero, List.set_cons_succ, i64_w, i32_w]
       rfl
      refine pure_ (i := 2) (N := some 7) (v := ?_) (a' := ?_) #[true, true, true, false, true, false, false, false, false, false, false, false, false, false, false, false, false, false, false, false, false, false, false, false, false, false, false, false, false, false, false] rfl rfl (any_of HT_.out (by kernel_rfl)) (fun _ _ _ h => h) (Or.inl ⟨by rfl, ?_⟩) ?_ ?_
      rotate_left
      ·intro w'
       go_simp
       with_reducible rfl
      rotate_left
      ·simp only [Act.put, List.setIfInBounds_toArray, List.set_cons_zero, List.set_cons_succ, i64_w, i32_w]
       rfl
      refine take_ (i := 3) (N := some 8) (v := ?_) (a' := ?_) #[true, true, true, true, true, false, false, false, false, false, false, false, false, false, false, false, false, false, false, false, false, false, false, false, false, false, false, false, false, false, false] rfl rfl (take_ofW HT_.out HW_.out (by kernel_rfl)) (fun _ _ _ h => h) (Or.inl ⟨by rfl, ?_⟩) hHeld ?_ ?_
      rotate_left
      ·rintro w' ⟨s0, s1, s2, s3, s4, s5, s6, s7, s8, s9, s10⟩
       go_simp
       with_reducible rfl
      rotate_left
      ·simp only [Act.put, List.setIfInBounds_toArray, List.set_cons_zero, List.set_cons_succ, i64_w, i32_w]
       rfl
      refine take_ (i := 5) (N := some 10) (v := ?_) (a' := ?_) #[true, true, true, true, true, true, false, false, false, false, false, false, false, false, false, false, false, false, false, false, false, false, false, false, false, false, false, false, false, false, false] rfl rfl (take_ofW HT_.out HW_.out (by kernel_rfl)) (fun _ _ _ h => h) (Or.inl ⟨by rfl, ?_⟩) hHeld ?_ ?_
      rotate_left
      ·rintro w' ⟨s0, s1, s2, s3, s4, s5, s6, s7, s8, s9, s10⟩
       go_simp
       with_reducible rfl
      rotate_left
      ·simp only [Act.put, List.setIfInBounds_toArray, List.set_cons_zero, List.set_cons_succ, i64_w, i32_w]
       rfl
      refine one_ (i := 6) (N := some 11) #[true, true, true, true, true, true, true, false, false, false, false, false, false, false, false, false, false, false, false, false, false, false, false, false, false, false, false, false, false, false, false] rfl rfl (one_of HT_.out (by kernel_rfl)) (by decide) (fun K hK => ?_)
      refine goes_ Tryz.func36 (by kernel_rfl) rfl #[.int .i64 3, .slice A175_0 (rd_L5 l0_0 3).length c175_0, .int .i64 a1_2] (by rfl) rfl rfl (by (try simp only [List.map_toArray, List.map_cons, List.map_nil]); first | done | rfl | (simp only [List.length_drop, List.length_take]; rfl)) ?_
      with_reducible refine (spec_Has.calls k 3 _ _ (rd_L5 l0_0 3) a1_2 true _ ?side1 ?side2 A4.out).mono ?_
      (case side1 => repeat (first | exact (Kd.C_below HR175_0.out HB.out) | (with_reducible refine Kd.C_alloc ?_ _) | (with_reducible refine Kd.C_drewN ?_ _) | (with_reducible refine Kd.C_drew ?_)))
      (case side2 => exact HC175_0.out)
      rintro e w15 ⟨rfl, hb⟩
      refine ⟨_, rfl, ?_⟩
      have n0_ := Aside0.mk (blk_below (g := gb173) (o := .cells #[.slice (some ad175) l0_0.length c0_0, .bool a0_1] 30 (0, 0)) (by (with_reducible repeat (first | refine blk_drewN ?_ _ | refine blk_drew ?_ | refine blk_alloc ?_ _)); exact BK173.out) hb)
      have n1_ := Aside0.mk (blk_below (g := gb174) (o := .cells #[.int .i64 a1_0, .int .i64 a1_1, .int .i64 a1_2, .int .i64 a1_3, .int .i64 a1_4, .int .i64 a1_5] 43 (0, 0)) (by (with_reducible repeat (first | refine blk_drewN ?_ _ | refine blk_drew ?_ | refine blk_alloc ?_ _)); exact BK174.out) hb)
      have n2_ := Aside0.mk (below_step (by repeat (first | (with_reducible first | exact HB.out | apply below_alloc | apply pw_below_drewN | apply below_drew1 | refine below_set ?_ GE173.out | refine below_set ?_ GE174.out) | exact HB.out)) hb)
      clear BK173
      clear BK174
      clear HB
      have BK173 := n0_
      have BK174 := n1_
      have HB := n2_
      clear n0_ n1_ n2_
      (try clear hb)
      (try clear hb2)
      (try clear hk)
      (try clear hi)
      refine hK.out _ _ ⟨(blk_cell BK173.out 0).trans rfl, (blk_cell BK173.out 1).trans rfl, (blk_cell BK174.out 0).trans rfl, (blk_cell BK174.out 1).trans rfl, (blk_cell BK174.out 2).trans rfl, (blk_cell BK174.out 3).trans rfl, (blk_cell BK174.out 4).trans rfl, (blk_cell BK174.out 5).trans rfl, ((HB.out.cell (World.block_lt_of_cell? w _ hw175_0)).trans hw175_0), ((HB.out.cell (World.block_lt_of_cell? w _ hw177_0)).trans hw177_0), ((HB.out.cell (World.block_lt_of_cell? w _ hw179_0)).trans hw179_0)⟩ (fun hHeld => ?_)
      clear hK K
      refine norm_ (a' := ?_) ?_ ?_
      rotate_left
      ·show Act.put _ (some 11) _ = _
       simp only [Act.put, List.setIfInBounds_toArray, List.set_cons_zero, List.set_cons_succ, i64_w, i32_w]
       rfl
      refine pure_ (i := 7) (N := some 12) (v := ?_) (a' := ?_) #[true, true, true, true, true, true, true, true, false, false, false, false, false, false, false, false, false, false, false, false, false, false, false, false, false, false, false, false, false, false, false] rfl rfl (any_of HT_.out (by kernel_rfl)) (fun _ _ _ h => h) (Or.inl ⟨by rfl, ?_⟩) ?_ ?_
      rotate_left
      ·intro w'
       go_simp
       with_reducible rfl
      rotate_left
      ·simp only [Act.put, List.setIfInBounds_toArray, List.set_cons_zero, List.set_cons_succ, i64_w, i32_w]
       rfl
      refine pure_ (i := 8) (N := some 13) (v := ?_) (a' := ?_) #[true, true, true, true, true, true, true, true, true, false, false, false, false, false, false, false, false, false, false, false, false, false, false, false, false, false, false, false, false, false, false] rfl rfl (any_of HT_.out (by kernel_rfl)) (fun _ _ _ h => h) (Or.inl ⟨by rfl, ?_⟩) ?_ ?_
      rotate_left
      ·intro w'
       go_simp
       with_reducible rfl
      rotate_left
      ·simp only [Act.put, List.setIfInBounds_toArray, List.set_cons_zero, List.set_cons_succ, i64_w, i32_w]
       rfl
      refine pure_ (i := 12) (N := some 17) (v := ?_) (a' := ?_) #[true, true, true, true, true, true, true, true, true, false, false, false, true, false, false, false, false, false, false, false, false, false, false, false, false, false, false, false, false, false, false] rfl rfl (any_of HT_.out (by kernel_rfl)) (fun _ _ _ h => h) (Or.inl ⟨by rfl, ?_⟩) ?_ ?_
      rotate_left
      ·intro w'
       go_simp
       with_reducible rfl
      rotate_left
      ·simp only [Act.put, List.setIfInBounds_toArray, List.set_cons_zero, List.set_cons_succ, i64_w, i32_w]
       rfl
      refine take_ (i := 9) (N := some 14) (v := ?_) (a' := ?_) #[true, true, true, true, true, true, true, true, true, true, false, false, true, false, false, false, false, false, false, false, false, false, false, false, false, false, false, false, false, false, false] rfl rfl (take_ofW HT_.out HW_.out (by kernel_rfl)) (fun _ _ _ h => h) (Or.inl ⟨by rfl, ?_⟩) hHeld ?_ ?_
      rotate_left
      ·rintro w' ⟨s0, s1, s2, s3, s4, s5, s6, s7, s8, s9, s10⟩
       go_simp
       with_reducible rfl
      rotate_left
      ·simp only [Act.put, List.setIfInBounds_toArray, List.set_cons_zero, List.set_cons_succ, i64_w, i32_w]
       rfl
      refine pure_ (i := 10) (N := some 15) (v := ?_) (a' := ?_) #[true, true, true, true, true, true, true, true, true, true, true, false, true, false, false, false, false, false, false, false, false, false, false, false, false, false, false, false, false, false, false] rfl rfl (any_of HT_.out (by kernel_rfl)) (fun _ _ _ h => h) (Or.inl ⟨by rfl, ?_⟩) ?_ ?_
      rotate_left
      ·intro w'
       go_simp
       with_reducible rfl
      rotate_left
      ·simp only [Act.put, List.setIfInBounds_toArray, List.set_cons_zero, List.set_cons_succ, i64_w, i32_w]
       rfl
      refine take_ (i := 11) (N := some 16) (v := ?_) (a' := ?_) #[true, true, true, true, true, true, true, true, true, true, true, true, true, false, false, false, false, false, false, false, false, false, false, false, false, false, false, false, false, false, false] rfl rfl (take_ofW HT_.out HW_.out (by kernel_rfl)) (fun _ _ _ h => h) (Or.inl ⟨by rfl, ?_⟩) hHeld ?_ ?_
      rotate_left
      ·rintro w' ⟨s0, s1, s2, s3, s4, s5, s6, s7, s8, s9, s10⟩
       go_simp
       with_reducible rfl
      rotate_left
      ·simp only [Act.put, List.setIfInBounds_toArray, List.set_cons_zero, List.set_cons_succ, i64_w, i32_w]
       rfl
      refine take_ (i := 13) (N := some 18) (v := ?_) (a' := ?_) #[true, true, true, true, true, true, true, true, true, true, true, true, true, true, false, false, false, false, false, false, false, false, false, false, false, false, false, false, false, false, false] rfl rfl (take_ofW HT_.out HW_.out (by kernel_rfl)) (fun _ _ _ h => h) (Or.inl ⟨by rfl, ?_⟩) hHeld ?_ ?_
      rotate_left
      ·rintro w' ⟨s0, s1, s2, s3, s4, s5, s6, s7, s8, s9, s10⟩
       go_simp
       with_reducible rfl
      rotate_left
      ·simp only [Act.put, List.setIfInBounds_toArray, List.set_cons_zero, List.set_cons_succ, i64_w, i32_w]
       rfl
      refine one_ (i := 14) (N := some 19) #[true, true, true, true, true, true, true, true, true, true, true, true, true, true, true, false, false, false, false, false, false, false, false, false, false, false, false, false, false, false, false] rfl rfl (one_of HT_.out (by kernel_rfl)) (by decide) (fun K hK => ?_)
      refine goes_ Tryz.func36 (by kernel_rfl) rfl #[.int .i64 4, .slice A177_0 (rd_L5 l0_0 4).length c177_0, .int .i64 a1_1] (by rfl) rfl rfl (by (try simp only [List.map_toArray, List.map_cons, List.map_nil]); first | done | rfl | (simp only [List.length_drop, List.length_take]; rfl)) ?_
      with_reducible refine (spec_Has.calls k 4 _ _ (rd_L5 l0_0 4) a1_1 true _ ?side1 ?side2 A7.out).mono ?_
      (case side1 => repeat (first | exact (Kd.C_below HR177_0.out HB.out) | (with_reducible refine Kd.C_alloc ?_ _) | (with_reducible refine Kd.C_drewN ?_ _) | (with_reducible refine Kd.C_drew ?_)))
      (case side2 => exact HC177_0.out)
      rintro e w16 ⟨rfl, hb⟩
      refine ⟨_, rfl, ?_⟩
      have n0_ := Aside0.mk (blk_below (g := gb173) (o := .cells #[.slice (some ad175) l0_0.length c0_0, .bool a0_1] 30 (0, 0)) (by (with_reducible repeat (first | refine blk_drewN ?_ _ | refine blk_drew ?_ | refine blk_alloc ?_ _)); exact BK173.out) hb)
      have n1_ := Aside0.mk (blk_below (g := gb174) (o := .cells #[.int .i64 a1_0, .int .i64 a1_1, .int .i64 a1_2, .int .i64 a1_3, .int .i64 a1_4, .int .i64 a1_5] 43 (0, 0)) (by (with_reducible repeat (first | refine blk_drewN ?_ _ | refine blk_drew ?_ | refine blk_alloc ?_ _)); exact BK174.out) hb)
      have n2_ := Aside0.mk (below_step (by repeat (first | (with_reducible first | exact HB.out | apply below_alloc | apply pw_below_drewN | apply below_drew1 | refine below_set ?_ GE173.out | refine below_set ?_ GE174.out) | exact HB.out)) hb)
      clear BK173
      clear BK174
      clear HB
      have BK173 := n0_
      have BK174 := n1_
      have HB := n2_
      clear n0_ n1_ n2_
      (try clear hb)
      (try clear hb2)
      (try clear hk)
      (try clear hi)
      refine hK.out _ _ ⟨(blk_cell BK173.out 0).trans rfl, (blk_cell BK173.out 1).trans rfl, (blk_cell BK174.out 0).trans rfl, (blk_cell BK174.out 1).trans rfl, (blk_cell BK174.out 2).trans rfl, (blk_cell BK174.out 3).trans rfl, (blk_cell BK174.out 4).trans rfl, (blk_cell BK174.out 5).trans rfl, ((HB.out.cell (World.block_lt_of_cell? w _ hw175_0)).trans hw175_0), ((HB.out.cell (World.block_lt_of_cell? w _ hw177_0)).trans hw177_0), ((HB.out.cell (World.block_lt_of_cell? w _ hw179_0)).trans hw179_0)⟩ (fun hHeld => ?_)
      clear hK K
      refine norm_ (a' := ?_) ?_ ?_
      rotate_left
      ·show Act.put _ (some 19) _ = _
       simp only [Act.put, List.setIfInBounds_toArray, List.set_cons_zero, List.set_cons_succ, i64_w, i32_w]
       rfl
      refine pure_ (i := 15) (N := some 20) (v := ?_) (a' := ?_) #[true, true, true, true, true, true, true, true, true, true, true, true, true, true, true, true, false, false, false, false, false, false, false, false, false, false, false, false, false, false, false] rfl rfl (any_of HT_.out (by kernel_rfl)) (fun _ _ _ h => h) (Or.inl ⟨by rfl, ?_⟩) ?_ ?_
      rotate_left
      ·intro w'
       go_simp
       with_reducible rfl
      rotate_left
      ·simp only [Act.put, List.setIfInBounds_toArray, List.set_cons_zero, List.set_cons_succ, i64_w, i32_w]
       rfl
      refine pure_ (i := 16) (N := some 21) (v := ?_) (a' := ?_) #[true, true, true, true, true, true, true, true, true, true, true, true, true, true, true, true, true, false, false, false, false, false, false, false, false, false, false, false, false, false, false] rfl rfl (any_of HT_.out (by kernel_rfl)) (fun _ _ _ h => h) (Or.inl ⟨by rfl, ?_⟩) ?_ ?_
      rotate_left
      ·intro w'
       go_simp
       with_reducible rfl
      rotate_left
      ·simp only [Act.put, List.setIfInBounds_toArray, List.set_cons_zero, List.set_cons_succ, i64_w, i32_w]
       rfl
      refine pure_ (i := 17) (N := some 22) (v := ?_) (a' := ?_) #[true, true, true, true, true, true, true, true, true, true, true, true, true, true, true, true, true, true, false, false, false, false, false, false, false, false, false, false, false, false, false] rfl rfl (any_of HT_.out (by kernel_rfl)) (fun _ _ _ h => h) (Or.inl ⟨by rfl, ?_⟩) ?_ ?_
      rotate_left
      ·intro w'
       go_simp
       with_reducible rfl
      rotate_left
      ·simp only [Act.put, List.setIfInBounds_toArray, List.set_cons_zero, List.set_cons_succ, i64_w, i32_w]
       rfl
      refine pure_ (i := 21) (N := some 26) (v := ?_) (a' := ?_) #[true, true, true, true, true, true, true, true, true, true, true, true, true, true, true, true, true, true, false, false, false, true, false, false, false, false, false, false, false, false, false] rfl rfl (any_of HT_.out (by kernel_rfl)) (fun _ _ _ h => h) (Or.inl ⟨by rfl, ?_⟩) ?_ ?_
      rotate_left
      ·intro w'
       go_simp
       with_reducible rfl
      rotate_left
      ·simp only [Act.put, List.setIfInBounds_toArray, List.set_cons_zero, List.set_cons_succ, i64_w, i32_w]
       rfl
      refine pure_ (i := 23) (N := some 28) (v := ?_) (a' := ?_) #[true, true, true, true, true, true, true, true, true, true, true, true, true, true, true, true, true, true, false, false, false, true, false, true, false, false, false, false, false, false, false] rfl rfl (any_of HT_.out (by kernel_rfl)) (fun _ _ _ h => h) (Or.inl ⟨by rfl, ?_⟩) ?_ ?_
      rotate_left
      ·intro w'
       go_simp
       with_reducible rfl
      rotate_left
      ·simp only [Act.put, List.setIfInBounds_toArray, List.set_cons_zero, List.set_cons_succ, i64_w, i32_w]
       rfl
      refine pure_ (i := 25) (N := some 30) (v := ?_) (a' := ?_) #[true, true, true, true, true, true, true, true, true, true, true, true, true, true, true, true, true, true, false, false, false, true, false, true, false, true, false, false, false, false, false] rfl rfl (any_of HT_.out (by kernel_rfl)) (fun _ _ _ h => h) (Or.inl ⟨by rfl, ?_⟩) ?_ ?_
      rotate_left
      ·intro w'
       go_simp
       with_reducible rfl
      rotate_left
      ·simp only [Act.put, List.setIfInBounds_toArray, List.set_cons_zero, List.set_cons_succ, i64_w, i32_w]
       rfl
      refine take_ (i := 18) (N := some 23) (v := ?_) (a' := ?_) #[true, true, true, true, true, true, true, true, true, true, true, true, true, true, true, true, true, true, true, false, false, true, false, true, false, true, false, false, false, false, false] rfl rfl (take_ofW HT_.out HW_.out (by kernel_rfl)) (fun _ _ _ h => h) (Or.inl ⟨by rfl, ?_⟩) hHeld ?_ ?_
      rotate_left
      ·rintro w' ⟨s0, s1, s2, s3, s4, s5, s6, s7, s8, s9, s10⟩
       go_simp
       with_reducible rfl
      rotate_left
      ·simp only [Act.put, List.setIfInBounds_toArray, List.set_cons_zero, List.set_cons_succ, i64_w, i32_w]
       rfl
      refine pure_ (i := 19) (N := some 24) (v := ?_) (a' := ?_) #[true, true, true, true, true, true, true, true, true, true, true, true, true, true, true, true, true, true, true, true, false, true, false, true, false, true, false, false, false, false, false] rfl rfl (any_of HT_.out (by kernel_rfl)) (fun _ _ _ h => h) (Or.inl ⟨by rfl, ?_⟩) ?_ ?_
      rotate_left
      ·intro w'
       go_simp
       with_reducible rfl
      rotate_left
      ·simp only [Act.put, List.setIfInBounds_toArray, List.set_cons_zero, List.set_cons_succ, i64_w, i32_w]
       rfl
      refine take_ (i := 20) (N := some 25) (v := ?_) (a' := ?_) #[true, true, true, true, true, true, true, true, true, true, true, true, true, true, true, true, true, true, true, true, true, true, false, true, false, true, false, false, false, false, false] rfl rfl (take_ofW HT_.out HW_.out (by kernel_rfl)) (fun _ _ _ h => h) (Or.inl ⟨by rfl, ?_⟩) hHeld ?_ ?_
      rotate_left
      ·rintro w' ⟨s0, s1, s2, s3, s4, s5, s6, s7, s8, s9, s10⟩
       go_simp
       with_reducible rfl
      rotate_left
      ·simp only [Act.put, List.setIfInBounds_toArray, List.set_cons_zero, List.set_cons_succ, i64_w, i32_w]
       rfl
      refine take_ (i := 22) (N := some 27) (v := ?_) (a' := ?_) #[true, true, true, true, true, true, true, true, true, true, true, true, true, true, true, true, true, true, true, true, true, true, true, true, false, true, false, false, false, false, false] rfl rfl (take_ofW HT_.out HW_.out (by kernel_rfl)) (fun _ _ _ h => h) (Or.inl ⟨by rfl, ?_⟩) hHeld ?_ ?_
      rotate_left
      ·rintro w' ⟨s0, s1, s2, s3, s4, s5, s6, s7, s8, s9, s10⟩
       go_simp
       with_reducible rfl
      rotate_left
      ·simp only [Act.put, List.setIfInBounds_toArray, List.set_cons_zero, List.set_cons_succ, i64_w, i32_w]
       rfl
      refine take_ (i := 24) (N := some 29) (v := ?_) (a' := ?_) #[true, true, true, true, true, true, true, true, true, true, true, true, true, true, true, true, true, true, true, true, true, true, true, true, true, true, false, false, false, false, false] rfl rfl (take_ofW HT_.out HW_.out (by kernel_rfl)) (fun _ _ _ h => h) (Or.inl ⟨by rfl, ?_⟩) hHeld ?_ ?_
      rotate_left
      ·rintro w' ⟨s0, s1, s2, s3, s4, s5, s6, s7, s8, s9, s10⟩
       go_simp
       with_reducible rfl
      rotate_left
      ·simp only [Act.put, List.setIfInBounds_toArray, List.set_cons_zero, List.set_cons_succ, i64_w, i32_w]
       rfl
      refine take_ (i := 26) (N := some 31) (v := ?_) (a' := ?_) #[true, true, true, true, true, true, true, true, true, true, true, true, true, true, true, true, true, true, true, true, true, true, true, true, true, true, true, false, false, false, false] rfl rfl (take_ofW HT_.out HW_.out (by kernel_rfl)) (fun _ _ _ h => h) (Or.inl ⟨by rfl, ?_⟩) hHeld ?_ ?_
      rotate_left
      ·rintro w' ⟨s0, s1, s2, s3, s4, s5, s6, s7, s8, s9, s10⟩
       go_simp
       with_reducible rfl
      rotate_left
      ·simp only [Act.put, List.setIfInBounds_toArray, List.set_cons_zero, List.set_cons_succ, i64_w, i32_w]
       rfl
      refine one_ (i := 27) (N := some 32) #[true, true, true, true, true, true, true, true, true, true, true, true, true, true, true, true, true, true, true, true, true, true, true, true, true, true, true, true, false, false, false] rfl rfl (one_of HT_.out (by kernel_rfl)) (by decide) (fun K hK => ?_)
      refine goes_ Tryz.func38 (by kernel_rfl) rfl #[.int .i64 a1_0, .int .i64 a1_1, .int .i64 a1_2] (by rfl) rfl rfl (by (try simp only [List.map_toArray, List.map_cons, List.map_nil]); first | done | rfl | (simp only [List.length_drop, List.length_take]; rfl)) ?_
      with_reducible refine (spec_Weekday.calls k a1_0 a1_1 a1_2 t180 _ A10.out).mono ?_
      rintro e w' ⟨rfl, ⟨nd, rfl⟩⟩
      refine ⟨_, rfl, ?_⟩
      refine hK.out _ _ ⟨(blk_cell BK173.out 0).trans rfl, (blk_cell BK173.out 1).trans rfl, (blk_cell BK174.out 0).trans rfl, (blk_cell BK174.out 1).trans rfl, (blk_cell BK174.out 2).trans rfl, (blk_cell BK174.out 3).trans rfl, (blk_cell BK174.out 4).trans rfl, (blk_cell BK174.out 5).trans rfl, ((HB.out.cell (World.block_lt_of_cell? w _ hw175_0)).trans hw175_0), ((HB.out.cell (World.block_lt_of_cell? w _ hw177_0)).trans hw177_0), ((HB.out.cell (World.block_lt_of_cell? w _ hw179_0)).trans hw179_0)⟩ (fun hHeld => ?_)
      clear hK K
      refine norm_ (a' := ?_) ?_ ?_
      rotate_left
      ·show Act.put _ (some 32) _ = _
       simp only [Act.put, List.setIfInBounds_toArray, List.set_cons_zero, List.set_cons_succ, i64_w, i32_w]
       rfl
      refine one_ (i := 28) (N := some 33) #[true, true, true, true, true, true, true, true, true, true, true, true, true, true, true, true, true, true, true, true, true, true, true, true, true, true, true, true, true, false, false] rfl rfl (one_of HT_.out (by kernel_rfl)) (by decide) (fun K hK => ?_)
      refine goes_ Tryz.func36 (by kernel_rfl) rfl #[.int .i64 5, .slice A179_0 (rd_L5 l0_0 5).length c179_0, .int .i64 t180] (by rfl) rfl rfl (by (try simp only [List.map_toArray, List.map_cons, List.map_nil]); first | done | rfl | (simp only [List.length_drop, List.length_take]; rfl)) ?_
      with_reducible refine (spec_Has.calls k 5 _ _ (rd_L5 l0_0 5) t180 t181 _ ?side1 ?side2 A11.out).mono ?_
      (case side1 => repeat (first | exact (Kd.C_below HR179_0.out (by repeat (first | (with_reducible first | exact HB.out | apply below_alloc | apply pw_below_drewN | apply below_drew1 | refine below_set ?_ GE173.out | refine below_set ?_ GE174.out) | exact HB.out))) | (with_reducible refine Kd.C_alloc ?_ _) | (with_reducible refine Kd.C_drewN ?_ _) | (with_reducible refine Kd.C_drew ?_)))
      (case side2 => exact HC179_0.out)
      rintro e w17 ⟨rfl, hb⟩
      refine ⟨_, rfl, ?_⟩
      have n0_ := Aside0.mk (blk_below (g := gb173) (o := .cells #[.slice (some ad175) l0_0.length c0_0, .bool a0_1] 30 (0, 0)) (by (with_reducible repeat (first | refine blk_drewN ?_ _ | refine blk_drew ?_ | refine blk_alloc ?_ _)); exact BK173.out) hb)
      have n1_ := Aside0.mk (blk_below (g := gb174) (o := .cells #[.int .i64 a1_0, .int .i64 a1_1, .int .i64 a1_2, .int .i64 a1_3, .int .i64 a1_4, .int .i64 a1_5] 43 (0, 0)) (by (with_reducible repeat (first | refine blk_drewN ?_ _ | refine blk_drew ?_ | refine blk_alloc ?_ _)); exact BK174.out) hb)
      have n2_ := Aside0.mk (below_step (by repeat (first | (with_reducible first | exact HB.out | apply below_alloc | apply pw_below_drewN | apply below_drew1 | refine below_set ?_ GE173.out | refine below_set ?_ GE174.out) | exact HB.out)) hb)
      clear BK173
      clear BK174
      clear HB
      have BK173 := n0_
      have BK174 := n1_
      have HB := n2_
      clear n0_ n1_ n2_
      (try clear hb)
      (try clear hb2)
      (try clear hk)
      (try clear hi)
      refine hK.out _ _ ⟨(blk_cell BK173.out 0).trans rfl, (blk_cell BK173.out 1).trans rfl, (blk_cell BK174.out 0).trans rfl, (blk_cell BK174.out 1).trans rfl, (blk_cell BK174.out 2).trans rfl, (blk_cell BK174.out 3).trans rfl, (blk_cell BK174.out 4).trans rfl, (blk_cell BK174.out 5).trans rfl, ((HB.out.cell (World.block_lt_of_cell? w _ hw175_0)).trans hw175_0), ((HB.out.cell (World.block_lt_of_cell? w _ hw177_0)).trans hw177_0), ((HB.out.cell (World.block_lt_of_cell? w _ hw179_0)).trans hw179_0)⟩ (fun hHeld => ?_)
      clear hK K
      refine norm_ (a' := ?_) ?_ ?_
      rotate_left
      ·show Act.put _ (some 33) _ = _
       simp only [Act.put, List.setIfInBounds_toArray, List.set_cons_zero, List.set_cons_succ, i64_w, i32_w]
       rfl
      refine pure_ (i := 29) (N := some 34) (v := ?_) (a' := ?_) #[true, true, true, true, true, true, true, true, true, true, true, true, true, true, true, true, true, true, true, true, true, true, true, true, true, true, true, true, true, true, false] rfl rfl (any_of HT_.out (by kernel_rfl)) (fun _ _ _ h => h) (Or.inl ⟨by rfl, ?_⟩) ?_ ?_
      rotate_left
      ·intro w'
       go_simp
       with_reducible rfl
      rotate_left
      ·simp only [Act.put, List.setIfInBounds_toArray, List.set_cons_zero, List.set_cons_succ, i64_w, i32_w]
       rfl
      refine pure_ (i := 30) (N := some 4) (v := ?_) (a' := ?_) #[true, true, true, true, true, true, true, true, true, true, true, true, true, true, true, true, true, true, true, true, true, true, true, true, true, true, true, true, true, true, true] rfl rfl (any_of HT_.out (by kernel_rfl)) (fun _ _ _ h => h) (Or.inl ⟨by rfl, ?_⟩) ?_ ?_
      rotate_left
      ·intro w'
       go_simp
       with_reducible rfl
      rotate_left
      ·simp only [Act.put, List.setIfInBounds_toArray, List.set_cons_zero, List.set_cons_succ, i64_w, i32_w]
       rfl
      refine done_ (done_of HT_.out (by kernel_rfl)) ?_
      try go_wp2
      go_ret
      exact ⟨by first | rfl | (simp [errW_none, errW_some] <;> rfl) | (simp [*, errW_none, errW_some] <;> rfl), by repeat (first | (with_reducible first | exact HB.out | apply below_alloc | apply pw_below_drewN | apply below_drew1 | refine below_set ?_ GE173.out | refine below_set ?_ GE174.out) | exact HB.out)⟩
     ·rw [if_neg c9] at H
      exact absurd H (by simp)
    ·replace c8 := Bool.eq_false_iff.mpr c8
     subst c8
     have H1 : (some false) = some r := by rw [if_neg (show ¬ (false = true) by decide)] at H; exact H
     clear H
     have H := H1
     clear H1
     obtain rfl := Option.some.inj H
     go_enter Tryz.func35, Tryz.ntmps35
     try go_wp2_with (first | ((with_reducible refine gate_dst (N := 2) rfl ?_); refine box_event ?hg (N := 2) ?hd (cs := #[.slice A0_0 l0_0.length c0_0, .bool a0_1]) (t := 30) ?hr ?_; (case hd => rfl); (case hg => rfl); (case hr => first | (go_simp; done) | (go_simp; rfl)); intro gb173 hg w18 hbox hb; have n0_ := Aside0.mk (below_step (by repeat (first | (with_reducible first | exact HB.out | apply below_alloc | apply pw_below_drewN | apply below_drew1) | exact HB.out)) hb); have n1_ := Aside0.mk (hbox); have n2_ := Aside0.mk ((by rw [hg]; exact (below_size (by repeat (first | (with_reducible first | exact HB.out | apply below_alloc | apply pw_below_drewN | apply below_drew1) | exact HB.out))) : w.heap.size ≤ gb173)); have n3_ := Aside0.mk ((by rw [hg]; exact (below_size (by repeat (first | (with_reducible first | exact HB.out | apply below_alloc | apply pw_below_drewN | apply below_drew1) | exact HB.out))) : w.heap.size ≤ gb173)); clear HB; have HB := n0_; have BK173 := n1_; have GW173 := n2_; have GE173 := n3_; clear n0_ n1_ n2_ n3_; clear hb hbox hg) | ((with_reducible refine gate_dst (N := 3) rfl ?_); refine box_event ?hg (N := 3) ?hd (cs := #[.int .i64 a1_0, .int .i64 a1_1, .int .i64 a1_2, .int .i64 a1_3, .int .i64 a1_4, .int .i64 a1_5]) (t := 43) ?hr ?_; (case hd => rfl); (case hg => rfl); (case hr => first | (go_simp; done) | (go_simp; rfl)); intro gb174 hg w19 hbox hb; have n0_ := Aside0.mk (blk_below (g := gb173) (o := .cells #[.slice A0_0 l0_0.length c0_0, .bool a0_1] 30 (0, 0)) (by (with_reducible repeat (first | refine blk_drewN ?_ _ | refine blk_drew ?_ | refine blk_alloc ?_ _)); exact BK173.out) hb); have n1_ := Aside0.mk (below_step (by repeat (first | (with_reducible first | exact HB.out | apply below_alloc | apply pw_below_drewN | apply below_drew1 | refine below_set ?_ GE173.out) | exact HB.out)) hb); have n2_ := Aside0.mk (hbox); have n3_ := Aside0.mk ((by rw [hg]; exact (below_size (by repeat (first | (with_reducible first | exact HB.out | apply below_alloc | apply pw_below_drewN | apply below_drew1 | refine below_set ?_ GE173.out) | exact HB.out))) : w.heap.size ≤ gb174)); have n4_ := Aside0.mk ((by rw [hg]; exact (below_size (by repeat (first | (with_reducible first | exact HB.out | apply below_alloc | apply pw_below_drewN | apply below_drew1 | refine below_set ?_ GE173.out) | exact HB.out))) : w.heap.size ≤ gb174)); have n5_ := Aside0.mk ((by rw [hg]; exact Nat.ne_of_lt (blk_lt (g := gb173) (o := .cells #[.slice A0_0 l0_0.length c0_0, .bool a0_1] 30 (0, 0)) (by (with_reducible repeat (first | refine blk_drewN ?_ _ | refine blk_drew ?_ | refine blk_alloc ?_ _)); exact BK173.out)) : gb173 ≠ gb174)); have n6_ := Aside0.mk ((by rw [hg]; exact Nat.ne_of_gt (blk_lt (g := gb173) (o := .cells #[.slice A0_0 l0_0.length c0_0, .bool a0_1] 30 (0, 0)) (by (with_reducible repeat (first | refine blk_drewN ?_ _ | refine blk_drew ?_ | refine blk_alloc ?_ _)); exact BK173.out)) : gb174 ≠ gb173)); clear BK173; clear HB; have BK173 := n0_; have HB := n1_; have BK174 := n2_; have GW174 := n3_; have GE174 := n4_; have NB173_174 := n5_; have NB174_173 := n6_; clear n0_ n1_ n2_ n3_ n4_ n5_ n6_; clear hb hbox hg))
     have n0_ := Aside0.mk (blk_drew BK173.out)
     have n1_ := Aside0.mk (blk_drew BK174.out)
     have n2_ := Aside0.mk (below_drew1 HB.out)
     clear BK173
     clear BK174
     clear HB
     have BK173 := n0_
     have BK174 := n1_
     have HB := n2_
     clear n0_ n1_ n2_
     have p175 : 0 ≤ (3 : Int) := (by omega)
     have q175 : 3 < (l0_0.length : Int) := of_decide_eq_true (by first | (with_reducible assumption) | assumption)
     obtain ⟨ad175, A175_0, c175_0, e175, hx175_0, hl175_0, hi175_0⟩ := at_L5 HR0_0.out 3 p175 q175
     have hw175_0 := hx175_0
     (try rw [show ((3 : Int)).toNat = 3 from rfl] at hw175_0)
     (try rw [show 3 * 1 = 3 from rfl] at hw175_0)
     (try simp only [Nat.reduceMul, Nat.reduceEqDiff, Go.Addr.add, ↓reduceIte] at hw175_0)
     cases e175
     (try simp only [show (3 : Int).toNat = 3 from rfl, Nat.reduceMul, Nat.reduceEqDiff, Go.Addr.add, ↓reduceIte] at hx175_0)
     have qi175 : (3 < l0_0.length) = True := eq_true (by omega)
     (try rw [show ((3 : Int)).toNat = 3 from rfl] at hx175_0)
     replace hx175_0 := (HB.out.cell (World.block_lt_of_cell? w _ hx175_0)).trans hx175_0
     have HR175_0 := Aside0.mk hi175_0
     have HC175_0 := Aside0.mk hl175_0
     clear hi175_0 hl175_0
     replace p175 := eq_true p175
     replace q175 := eq_true q175
     have p177 : 0 ≤ (4 : Int) := (by omega)
     have q177 : 4 < (l0_0.length : Int) := of_decide_eq_true (by first | (with_reducible assumption) | assumption)
     obtain ⟨ad177, A177_0, c177_0, e177, hx177_0, hl177_0, hi177_0⟩ := at_L5 HR0_0.out 4 p177 q177
     have hw177_0 := hx177_0
     (try rw [show ((4 : Int)).toNat = 4 from rfl] at hw177_0)
     (try rw [show 4 * 1 = 4 from rfl] at hw177_0)
     (try simp only [Nat.reduceMul, Nat.reduceEqDiff, Go.Addr.add, ↓reduceIte] at hw177_0)
     obtain rfl : ad175 = ad177 := (by injection e177)
     (try simp only [show (4 : Int).toNat = 4 from rfl, Nat.reduceMul, Nat.reduceEqDiff, Go.Addr.add, ↓reduceIte] at hx177_0)
     have qi177 : (4 < l0_0.length) = True := eq_true (by omega)
     (try rw [show ((4 : Int)).toNat = 4 from rfl] at hx177_0)
     replace hx177_0 := (HB.out.cell (World.block_lt_of_cell? w _ hx177_0)).trans hx177_0
     have HR177_0 := Aside0.mk hi177_0
     have HC177_0 := Aside0.mk hl177_0
     clear hi177_0 hl177_0
     replace p177 := eq_true p177
     replace q177 := eq_true q177
     refine start_ (n := 31) (S := fun w' => w'.cell? ⟨gb173, 0, none⟩ = some (.slice (some ad175) l0_0.length c0_0) ∧ w'.cell? ⟨gb173, 1, none⟩ = some (.bool a0_1) ∧ w'.cell? ⟨gb174, 0, none⟩ = some (.int .i64 a1_0) ∧ w'.cell? ⟨gb174, 1, none⟩ = some (.int .i64 a1_1) ∧ w'.cell? ⟨gb174, 2, none⟩ = some (.int .i64 a1_2) ∧ w'.cell? ⟨gb174, 3, none⟩ = some (.int .i64 a1_3) ∧ w'.cell? ⟨gb174, 4, none⟩ = some (.int .i64 a1_4) ∧ w'.cell? ⟨gb174, 5, none⟩ = some (.int .i64 a1_5) ∧ w'.cell? ⟨ad175.block, ad175.off + 3, none⟩ = some (.slice A175_0 (rd_L5 l0_0 3).length c175_0) ∧ w'.cell? ⟨ad175.block, ad175.off + 4, none⟩ = some (.slice A177_0 (rd_L5 l0_0 4).length c177_0)) (ds := []) #[false, false, false, false, false, false, false, false, false, false, false, false, false, false, false, false, false, false, false, false, false, false, false, false, false, false, false, false, false, false, false] (by kernel_rfl) rfl rfl ⟨(blk_cell BK173.out 0).trans rfl, (blk_cell BK173.out 1).trans rfl, (blk_cell BK174.out 0).trans rfl, (blk_cell BK174.out 1).trans rfl, (blk_cell BK174.out 2).trans rfl, (blk_cell BK174.out 3).trans rfl, (blk_cell BK174.out 4).trans rfl, (blk_cell BK174.out 5).trans rfl, ((HB.out.cell (World.block_lt_of_cell? w _ hw175_0)).trans hw175_0), ((HB.out.cell (World.block_lt_of_cell? w _ hw177_0)).trans hw177_0)⟩ (fun hHeld => ?_); refine with_tabW spec_DayFits.tab1 spec_DayFits.bits1 (fun HT_ HW_ => ?_)
     generalize w19.drew = w20 at BK173 BK174 HB HR175_0 HR177_0 hx175_0 hx177_0 hHeld ⊢
     refine pure_ (i := 0) (N := some 5) (v := ?_) (a' := ?_) #[true, false, false, false, false, false, false, false, false, false, false, false, false, false, false, false, false, false, false, false, false, false, false, false, false, false, false, false, false, false, false] rfl rfl (any_of HT_.out (by kernel_rfl)) (fun _ _ _ h => h) (Or.inl ⟨by rfl, ?_⟩) ?_ ?_
     rotate_left
     ·intro w'
      go_simp
      with_reducible rfl
     rotate_left
     ·simp only [Act.put, List.setIfInBounds_toArray, List.set_cons_zero, List.set_cons_succ, i64_w, i32_w]
      rfl
     refine pure_ (i := 4) (N := some 9) (v := ?_) (a' := ?_) #[true, false, false, false, true, false, false, false, false, false, false, false, false, false, false, false, false, false, false, false, false, false, false, false, false, false, false, false, false, false, false] rfl rfl (any_of HT_.out (by kernel_rfl)) (fun _ _ _ h => h) (Or.inl ⟨by rfl, ?_⟩) ?_ ?_
     rotate_left
     ·intro w'
      go_simp
      with_reducible rfl
     rotate_left
     ·simp only [Act.put, List.setIfInBounds_toArray, List.set_cons_zero, List.set_cons_succ, i64_w, i32_w]
      rfl
     refine take_ (i := 1) (N := some 6) (v := ?_) (a' := ?_) #[true, true, false, false, true, false, false, false, false, false, false, false, false, false, false, false, false, false, false, false, false, false, false, false, false, false, false, false, false, false, false] rfl rfl (take_ofW HT_.out HW_.out (by kernel_rfl)) (fun _ _ _ h => h) (Or.inl ⟨by rfl, ?_⟩) hHeld ?_ ?_
     rotate_left
     ·rintro w' ⟨s0, s1, s2, s3, s4, s5, s6, s7, s8, s9⟩
      go_simp
      with_reducible rfl
     rotate_left
     ·simp only [Act.put, List.setIfInBounds_toArray, List.set_cons_zero, List.set_cons_succ, i64_w, i32_w]
      rfl
     refine pure_ (i := 2) (N := some 7) (v := ?_) (a' := ?_) #[true, true, true, false, true, false, false, false, false, false, false, false, false, false, false, false, false, false, false, false, false, false, false, false, false, false, false, false, false, false, false] rfl rfl (any_of HT_.out (by kernel_rfl)) (fun _ _ _ h => h) (Or.inl ⟨by rfl, ?_⟩) ?_ ?_
     rotate_left
     ·intro w'
      go_simp
      with_reducible rfl
     rotate_left
     ·simp only [Act.put, List.setIfInBounds_toArray, List.set_cons_zero, List.set_cons_succ, i64_w, i32_w]
      rfl
     refine take_ (i := 3) (N := some 8) (v := ?_) (a' := ?_) #[true, true, true, true, true, false, false, false, false, false, false, false, false, false, false, false, false, false, false, false, false, false, false, false, false, false, false, false, false, false, false] rfl rfl (take_ofW HT_.out HW_.out (by kernel_rfl)) (fun _ _ _ h => h) (Or.inl ⟨by rfl, ?_⟩) hHeld ?_ ?_
     rotate_left
     ·rintro w' ⟨s0, s1, s2, s3, s4, s5, s6, s7, s8, s9⟩
      go_simp
      with_reducible rfl
     rotate_left
     ·simp only [Act.put, List.setIfInBounds_toArray, List.set_cons_zero, List.set_cons_succ, i64_w, i32_w]
      rfl
     refine take_ (i := 5) (N := some 10) (v := ?_) (a' := ?_) #[true, true, true, true, true, true, false, false, false, false, false, false, false, false, false, false, false, false, false, false, false, false, false, false, false, false, false, false, false, false, false] rfl rfl (take_ofW HT_.out HW_.out (by kernel_rfl)) (fun _ _ _ h => h) (Or.inl ⟨by rfl, ?_⟩) hHeld ?_ ?_
     rotate_left
     ·rintro w' ⟨s0, s1, s2, s3, s4, s5, s6, s7, s8, s9⟩
      go_simp
      with_reducible rfl
     rotate_left
     ·simp only [Act.put, List.setIfInBounds_toArray, List.set_cons_zero, List.set_cons_succ, i64_w, i32_w]
      rfl
     refine one_ (i := 6) (N := some 11) #[true, true, true, true, true, true, true, false, false, false, false, false, false, false, false, false, false, false, false, false, false, false, false, false, false, false, false, false, false, false, false] rfl rfl (one_of HT_.out (by kernel_rfl)) (by decide) (fun K hK => ?_)
     refine goes_ Tryz.func36 (by kernel_rfl) rfl #[.int .i64 3, .slice A175_0 (rd_L5 l0_0 3).length c175_0, .int .i64 a1_2] (by rfl) rfl rfl (by (try simp only [List.map_toArray, List.map_cons, List.map_nil]); first | done | rfl | (simp only [List.length_drop, List.length_take]; rfl)) ?_
     with_reducible refine (spec_Has.calls k 3 _ _ (rd_L5 l0_0 3) a1_2 true _ ?side1 ?side2 A4.out).mono ?_
     (case side1 => repeat (first | exact (Kd.C_below HR175_0.out HB.out) | (with_reducible refine Kd.C_alloc ?_ _) | (with_reducible refine Kd.C_drewN ?_ _) | (with_reducible refine Kd.C_drew ?_)))
     (case side2 => exact HC175_0.out)
     rintro e w21 ⟨rfl, hb⟩
     refine ⟨_, rfl, ?_⟩
     have n0_ := Aside0.mk (blk_below (g := gb173) (o := .cells #[.slice (some ad175) l0_0.length c0_0, .bool a0_1] 30 (0, 0)) (by (with_reducible repeat (first | refine blk_drewN ?_ _ | refine blk_drew ?_ | refine blk_alloc ?_ _)); exact BK173.out) hb)
     have n1_ := Aside0.mk (blk_below (g := gb174) (o := .cells #[.int .i64 a1_0, .int .i64 a1_1, .int .i64 a1_2, .int .i64 a1_3, .int .i64 a1_4, .int .i64 a1_5] 43 (0, 0)) (by (with_reducible repeat (first | refine blk_drewN ?_ _ | refine blk_drew ?_ | refine blk_alloc ?_ _)); exact BK174.out) hb)
     have n2_ := Aside0.mk (below_step (by repeat (first | (with_reducible first | exact HB.out | apply below_alloc | apply pw_below_drewN | apply below_drew1 | refine below_set ?_ GE173.out | refine below_set ?_ GE174.out) | exact HB.out)) hb)
     clear BK173
     clear BK174
     clear HB
     have BK173 := n0_
     have BK174 := n1_
     have HB := n2_
     clear n0_ n1_ n2_
     (try clear hb)
     (try clear hb2)
     (try clear hk)
     (try clear hi)
     refine hK.out _ _ ⟨(blk_cell BK173.out 0).trans rfl, (blk_cell BK173.out 1).trans rfl, (blk_cell BK174.out 0).trans rfl, (blk_cell BK174.out 1).trans rfl, (blk_cell BK174.out 2).trans rfl, (blk_cell BK174.out 3).trans rfl, (blk_cell BK174.out 4).trans rfl, (blk_cell BK174.out 5).trans rfl, ((HB.out.cell (World.block_lt_of_cell? w _ hw175_0)).trans hw175_0), ((HB.out.cell (World.block_lt_of_cell? w _ hw177_0)).trans hw177_0)⟩ (fun hHeld => ?_)
     clear hK K
     refine norm_ (a' := ?_) ?_ ?_
     rotate_left
     ·show Act.put _ (some 11) _ = _
      simp only [Act.put, List.setIfInBounds_toArray, List.set_cons_zero, List.set_cons_succ, i64_w, i32_w]
      rfl
     refine pure_ (i := 7) (N := some 12) (v := ?_) (a' := ?_) #[true, true, true, true, true, true, true, true, false, false, false, false, false, false, false, false, false, false, false, false, false, false, false, false, false, false, false, false, false, false, false] rfl rfl (any_of HT_.out (by kernel_rfl)) (fun _ _ _ h => h) (Or.inl ⟨by rfl, ?_⟩) ?_ ?_
     rotate_left
     ·intro w'
      go_simp
      with_reducible rfl
     rotate_left
     ·simp only [Act.put, List.setIfInBounds_toArray, List.set_cons_zero, List.set_cons_succ, i64_w, i32_w]
      rfl
     refine pure_ (i := 8) (N := some 13) (v := ?_) (a' := ?_) #[true, true, true, true, true, true, true, true, true, false, false, false, false, false, false, false, false, false, false, false, false, false, false, false, false, false, false, false, false, false, false] rfl rfl (any_of HT_.out (by kernel_rfl)) (fun _ _ _ h => h) (Or.inl ⟨by rfl, ?_⟩) ?_ ?_
     rotate_left
     ·intro w'
      go_simp
      with_reducible rfl
     rotate_left
     ·simp only [Act.put, List.setIfInBounds_toArray, List.set_cons_zero, List.set_cons_succ, i64_w, i32_w]
      rfl
     refine pure_ (i := 12) (N := some 17) (v := ?_) (a' := ?_) #[true, true, true, true, true, true, true, true, true, false, false, false, true, false, false, false, false, false, false, false, false, false, false, false, false, false, false, false, false, false, false] rfl rfl (any_of HT_.out (by kernel_rfl)) (fun _ _ _ h => h) (Or.inl ⟨by rfl, ?_⟩) ?_ ?_
     rotate_left
     ·intro w'
      go_simp
      with_reducible rfl
     rotate_left
     ·simp only [Act.put, List.setIfInBounds_toArray, List.set_cons_zero, List.set_cons_succ, i64_w, i32_w]
      rfl
     refine take_ (i := 9) (N := some 14) (v := ?_) (a' := ?_) #[true, true, true, true, true, true, true, true, true, true, false, false, true, false, false, false, false, false, false, false, false, false, false, false, false, false, false, false, false, false, false] rfl rfl (take_ofW HT_.out HW_.out (by kernel_rfl)) (fun _ _ _ h => h) (Or.inl ⟨by rfl, ?_⟩) hHeld ?_ ?_
     rotate_left
     ·rintro w' ⟨s0, s1, s2, s3, s4, s5, s6, s7, s8, s9⟩
      go_simp
      with_reducible rfl
     rotate_left
     ·simp only [Act.put, List.setIfInBounds_toArray, List.set_cons_zero, List.set_cons_succ, i64_w, i32_w]
      rfl
     refine pure_ (i := 10) (N := some 15) (v := ?_) (a' := ?_) #[true, true, true, true, true, true, true, true, true, true, true, false, true, false, false, false, false, false, false, false, false, false, false, false, false, false, false, false, false, false, false] rfl rfl (any_of HT_.out (by kernel_rfl)) (fun _ _ _ h => h) (Or.inl ⟨by rfl, ?_⟩) ?_ ?_
     rotate_left
     ·intro w'
      go_simp
      with_reducible rfl
     rotate_left
     ·simp only [Act.put, List.setIfInBounds_toArray, List.set_cons_zero, List.set_cons_succ, i64_w, i32_w]
      rfl
     refine take_ (i := 11) (N := some 16) (v := ?_) (a' := ?_) #[true, true, true, true, true, true, true, true, true, true, true, true, true, false, false, false, false, false, false, false, false, false, false, false, false, false, false, false, false, false, false] rfl rfl (take_ofW HT_.out HW_.out (by kernel_rfl)) (fun _ _ _ h => h) (Or.inl ⟨by rfl, ?_⟩) hHeld ?_ ?_
     rotate_left
     ·rintro w' ⟨s0, s1, s2, s3, s4, s5, s6, s7, s8, s9⟩
      go_simp
      with_reducible rfl
     rotate_left
     ·simp only [Act.put, List.setIfInBounds_toArray, List.set_cons_zero, List.set_cons_succ, i64_w, i32_w]
      rfl
     refine take_ (i := 13) (N := some 18) (v := ?_) (a' := ?_) #[true, true, true, true, true, true, true, true, true, true, true, true, true, true, false, false, false, false, false, false, false, false, false, false, false, false, false, false, false, false, false] rfl rfl (take_ofW HT_.out HW_.out (by kernel_rfl)) (fun _ _ _ h => h) (Or.inl ⟨by rfl, ?_⟩) hHeld ?_ ?_
     rotate_left
     ·rintro w' ⟨s0, s1, s2, s3, s4, s5, s6, s7, s8, s9⟩
      go_simp
      with_reducible rfl
     rotate_left
     ·simp only [Act.put, List.setIfInBounds_toArray, List.set_cons_zero, List.set_cons_succ, i64_w, i32_w]
      rfl
     refine one_ (i := 14) (N := some 19) #[true, true, true, true, true, true, true, true, true, true, true, true, true, true, true, false, false, false, false, false, false, false, false, false, false, false, false, false, false, false, false] rfl rfl (one_of HT_.out (by kernel_rfl)) (by decide) (fun K hK => ?_)
     refine goes_ Tryz.func36 (by kernel_rfl) rfl #[.int .i64 4, .slice A177_0 (rd_L5 l0_0 4).length c177_0, .int .i64 a1_1] (by rfl) rfl rfl (by (try simp only [List.map_toArray, List.map_cons, List.map_nil]); first | done | rfl | (simp only [List.length_drop, List.length_take]; rfl)) ?_
     with_reducible refine (spec_Has.calls k 4 _ _ (rd_L5 l0_0 4) a1_1 false _ ?side1 ?side2 A7.out).mono ?_
     (case side1 => repeat (first | exact (Kd.C_below HR177_0.out HB.out) | (with_reducible refine Kd.C_alloc ?_ _) | (with_reducible refine Kd.C_drewN ?_ _) | (with_reducible refine Kd.C_drew ?_)))
     (case side2 => exact HC177_0.out)
     rintro e w22 ⟨rfl, hb⟩
     refine ⟨_, rfl, ?_⟩
     have n0_ := Aside0.mk (blk_below (g := gb173) (o := .cells #[.slice (some ad175) l0_0.length c0_0, .bool a0_1] 30 (0, 0)) (by (with_reducible repeat (first | refine blk_drewN ?_ _ | refine blk_drew ?_ | refine blk_alloc ?_ _)); exact BK173.out) hb)
     have n1_ := Aside0.mk (blk_below (g := gb174) (o := .cells #[.int .i64 a1_0, .int .i64 a1_1, .int .i64 a1_2, .int .i64 a1_3, .int .i64 a1_4, .int .i64 a1_5] 43 (0, 0)) (by (with_reducible repeat (first | refine blk_drewN ?_ _ | refine blk_drew ?_ | refine blk_alloc ?_ _)); exact BK174.out) hb)
     have n2_ := Aside0.mk (below_step (by repeat (first | (with_reducible first | exact HB.out | apply below_alloc | apply pw_below_drewN | apply below_drew1 | refine below_set ?_ GE173.out | refine below_set ?_ GE174.out) | exact HB.out)) hb)
     clear BK173
     clear BK174
     clear HB
     have BK173 := n0_
     have BK174 := n1_
     have HB := n2_
     clear n0_ n1_ n2_
     (try clear hb)
     (try clear hb2)
     (try clear hk)
     (try clear hi)
     refine hK.out _ _ ⟨(blk_cell BK173.out 0).trans rfl, (blk_cell BK173.out 1).trans rfl, (blk_cell BK174.out 0).trans rfl, (blk_cell BK174.out 1).trans rfl, (blk_cell BK174.out 2).trans rfl, (blk_cell BK174.out 3).trans rfl, (blk_cell BK174.out 4).trans rfl, (blk_cell BK174.out 5).trans rfl, ((HB.out.cell (World.block_lt_of_cell? w _ hw175_0)).trans hw175_0), ((HB.out.cell (World.block_lt_of_cell? w _ hw177_0)).trans hw177_0)⟩ (fun hHeld => ?_)
     clear hK K
     refine norm_ (a' := ?_) ?_ ?_
     rotate_left
     ·show Act.put _ (some 19) _ = _
      simp only [Act.put, List.setIfInBounds_toArray, List.set_cons_zero, List.set_cons_succ, i64_w, i32_w]
      rfl
     refine pure_ (i := 15) (N := some 20) (v := ?_) (a' := ?_) #[true, true, true, true, true, true, true, true, true, true, true, true, true, true, true, true, false, false, false, false, false, false, false, false, false, false, false, false, false, false, false] rfl rfl (any_of HT_.out (by kernel_rfl)) (fun _ _ _ h => h) (Or.inl ⟨by rfl, ?_⟩) ?_ ?_
     rotate_left
     ·intro w'
      go_simp
      with_reducible rfl
     rotate_left
     ·simp only [Act.put, List.setIfInBounds_toArray, List.set_cons_zero, List.set_cons_succ, i64_w, i32_w]
      rfl
     refine pure_ (i := 16) (N := some 21) (v := ?_) (a' := ?_) #[true, true, true, true, true, true, true, true, true, true, true, true, true, true, true, true, true, false, false, false, false, false, false, false, false, false, false, false, false, false, false] rfl rfl (any_of HT_.out (by kernel_rfl)) (fun _ _ _ h => h) (Or.inl ⟨by rfl, ?_⟩) ?_ ?_
     rotate_left
     ·intro w'
      go_simp
      with_reducible rfl
     rotate_left
     ·simp only [Act.put, List.setIfInBounds_toArray, List.set_cons_zero, List.set_cons_succ, i64_w, i32_w]
      rfl
     refine pure_ (i := 17) (N := some 22) (v := undef) (a' := ?_) #[true, true, true, true, true, true, true, true, true, true, true, true, true, true, true, true, true, true, false, false, false, false, false, false, false, false, false, false, false, false, false] rfl rfl (any_of HT_.out (by kernel_rfl)) (fun _ _ _ h => h) (Or.inr ⟨by rfl, rfl⟩) ?_ ?_
     rotate_left
     ·simp only [Act.put, List.setIfInBounds_toArray, List.set_cons_zero, List.set_cons_succ, i64_w, i32_w]
      rfl
     refine pure_ (i := 18) (N := some 23) (v := undef) (a' := ?_) #[true, true, true, true, true, true, true, true, true, true, true, true, true, true, true, true, true, true, true, false, false, false, false, false, false, false, false, false, false, false, false] rfl rfl (any_of HT_.out (by kernel_rfl)) (fun _ _ _ h => h) (Or.inr ⟨by rfl, rfl⟩) ?_ ?_
     rotate_left
     ·simp only [Act.put, List.setIfInBounds_toArray, List.set_cons_zero, List.set_cons_succ, i64_w, i32_w]
      rfl
     refine pure_ (i := 19) (N := some 24) (v := undef) (a' := ?_) #[true, true, true, true, true, true, true, true, true, true, true, true, true, true, true, true, true, true, true, true, false, false, false, false, false, false, false, false, false, false, false] rfl rfl (any_of HT_.out (by kernel_rfl)) (fun _ _ _ h => h) (Or.inr ⟨by rfl, rfl⟩) ?_ ?_
     rotate_left
     ·simp only [Act.put, List.setIfInBounds_toArray, List.set_cons_zero, List.set_cons_succ, i64_w, i32_w]
      rfl
     refine pure_ (i := 20) (N := some 25) (v := undef) (a' := ?_) #[true, true, true, true, true, true, true, true, true, true, true, true, true, true, true, true, true, true, true, true, true, false, false, false, false, false, false, false, false, false, false] rfl rfl (any_of HT_.out (by kernel_rfl)) (fun _ _ _ h => h) (Or.inr ⟨by rfl, rfl⟩) ?_ ?_
     rotate_left
     ·simp only [Act.put, List.setIfInBounds_toArray, List.set_cons_zero, List.set_cons_succ, i64_w, i32_w]
      rfl
     refine pure_ (i := 21) (N := some 26) (v := undef) (a' := ?_) #[true, true, true, true, true, true, true, true, true, true, true, true, true, true, true, true, true, true, true, true, true, true, false, false, false, false, false, false, false, false, false] rfl rfl (any_of HT_.out (by kernel_rfl)) (fun _ _ _ h => h) (Or.inr ⟨by rfl, rfl⟩) ?_ ?_
     rotate_left
     ·simp only [Act.put, List.setIfInBounds_toArray, List.set_cons_zero, List.set_cons_succ, i64_w, i32_w]
      rfl
     refine pure_ (i := 22) (N := some 27) (v := undef) (a' := ?_) #[true, true, true, true, true, true, true, true, true, true, true, true, true, true, true, true, true, true, true, true, true, true, true, false, false, false, false, false, false, false, false] rfl rfl (any_of HT_.out (by kernel_rfl)) (fun _ _ _ h => h) (Or.inr ⟨by rfl, rfl⟩) ?_ ?_
     rotate_left
     ·simp only [Act.put, List.setIfInBounds_toArray, List.set_cons_zero, List.set_cons_succ, i64_w, i32_w]
      rfl
     refine pure_ (i := 23) (N := some 28) (v := undef) (a' := ?_) #[true, true, true, true, true, true, true, true, true, true, true, true, true, true, true, true, true, true, true, true, true, true, true, true, false, false, false, false, false, false, false] rfl rfl (any_of HT_.out (by kernel_rfl)) (fun _ _ _ h => h) (Or.inr ⟨by rfl, rfl⟩) ?_ ?_
     rotate_left
     ·simp only [Act.put, List.setIfInBounds_toArray, List.set_cons_zero, List.set_cons_succ, i64_w, i32_w]
      rfl
     refine pure_ (i := 24) (N := some 29) (v := undef) (a' := ?_) #[true, true, true, true, true, true, true, true, true, true, true, true, true, true, true, true, true, true, true, true, true, true, true, true, true, false, false, false, false, false, false] rfl rfl (any_of HT_.out (by kernel_rfl)) (fun _ _ _ h => h) (Or.inr ⟨by rfl, rfl⟩) ?_ ?_
     rotate_left
     ·simp only [Act.put, List.setIfInBounds_toArray, List.set_cons_zero, List.set_cons_succ, i64_w, i32_w]
      rfl
     refine pure_ (i := 25) (N := some 30) (v := undef) (a' := ?_) #[true, true, true, true, true, true, true, true, true, true, true, true, true, true, true, true, true, true, true, true, true, true, true, true, true, true, false, false, false, false, false] rfl rfl (any_of HT_.out (by kernel_rfl)) (fun _ _ _ h => h) (Or.inr ⟨by rfl, rfl⟩) ?_ ?_
     rotate_left
     ·simp only [Act.put, List.setIfInBounds_toArray, List.set_cons_zero, List.set_cons_succ, i64_w, i32_w]
      rfl
     refine pure_ (i := 26) (N := some 31) (v := undef) (a' := ?_) #[true, true, true, true, true, true, true, true, true, true, true, true, true, true, true, true, true, true, true, true, true, true, true, true, true, true, true, false, false, false, false] rfl rfl (any_of HT_.out (by kernel_rfl)) (fun _ _ _ h => h) (Or.inr ⟨by rfl, rfl⟩) ?_ ?_
     rotate_left
     ·simp only [Act.put, List.setIfInBounds_toArray, List.set_cons_zero, List.set_cons_succ, i64_w, i32_w]
      rfl
     refine pure_ (i := 27) (N := some 32) (v := undef) (a' := ?_) #[true, true, true, true, true, true, true, true, true, true, true, true, true, true, true, true, true, true, true, true, true, true, true, true, true, true, true, true, false, false, false] rfl rfl (any_of HT_.out (by kernel_rfl)) (fun _ _ _ h => h) (Or.inr ⟨by rfl, rfl⟩) ?_ ?_
     rotate_left
     ·simp only [Act.put, List.setIfInBounds_toArray, List.set_cons_zero, List.set_cons_succ, i64_w, i32_w]
      rfl
     refine pure_ (i := 28) (N := some 33) (v := undef) (a' := ?_) #[true, true, true, true, true, true, true, true, true, true, true, true, true, true, true, true, true, true, true, true, true, true, true, true, true, true, true, true, true, false, false] rfl rfl (any_of HT_.out (by kernel_rfl)) (fun _ _ _ h => h) (Or.inr ⟨by rfl, rfl⟩) ?_ ?_
     rotate_left
     ·simp only [Act.put, List.setIfInBounds_toArray, List.set_cons_zero, List.set_cons_succ, i64_w, i32_w]
      rfl
     refine pure_ (i := 29) (N := some 34) (v := ?_) (a' := ?_) #[true, true, true, true, true, true, true, true, true, true, true, true, true, true, true, true, true, true, true, true, true, true, true, true, true, true, true, true, true, true, false] rfl rfl (any_of HT_.out (by kernel_rfl)) (fun _ _ _ h => h) (Or.inl ⟨by rfl, ?_⟩) ?_ ?_
     rotate_left
     ·intro w'
      go_simp
      with_reducible rfl
     rotate_left
     ·simp only [Act.put, List.setIfInBounds_toArray, List.set_cons_zero, List.set_cons_succ, i64_w, i32_w]
      rfl
     refine pure_ (i := 30) (N := some 4) (v := ?_) (a' := ?_) #[true, true, true, true, true, true, true, true, true, true, true, true, true, true, true, true, true, true, true, true, true, true, true, true, true, true, true, true, true, true, true] rfl rfl (any_of HT_.out (by kernel_rfl)) (fun _ _ _ h => h) (Or.inl ⟨by rfl, ?_⟩) ?_ ?_
     rotate_left
     ·intro w'
      go_simp
      with_reducible rfl
     rotate_left
     ·simp only [Act.put, List.setIfInBounds_toArray, List.set_cons_zero, List.set_cons_succ, i64_w, i32_w]
      rfl
     refine done_ (done_of HT_.out (by kernel_rfl)) ?_
     try go_wp2
     go_ret
     exact ⟨by first | rfl | (simp [errW_none, errW_some] <;> rfl) | (simp [*, errW_none, errW_some] <;> rfl), by repeat (first | (with_reducible first | exact HB.out | apply below_alloc | apply pw_below_drewN | apply below_drew1 | refine below_set ?_ GE173.out | refine below_set ?_ GE174.out) | exact HB.out)⟩
   ·rw [if_neg c6] at H
    exact absurd H (by simp)
  ·replace c5 := Bool.eq_false_iff.mpr c5
   subst c5
   have H1 : (some false) = some r := by rw [if_neg (show ¬ (false = true) by decide)] at H; exact H
   clear H
   have H := H1
   clear H1
   obtain rfl := Option.some.inj H
   go_enter Tryz.func35, Tryz.ntmps35
   try go_wp2_with (first | ((with_reducible refine gate_dst (N := 2) rfl ?_); refine box_event ?hg (N := 2) ?hd (cs := #[.slice A0_0 l0_0.length c0_0, .bool a0_1]) (t := 30) ?hr ?_; (case hd => rfl); (case hg => rfl); (case hr => first | (go_simp; done) | (go_simp; rfl)); intro gb173 hg w23 hbox hb; have n0_ := Aside0.mk (below_step (by repeat (first | (with_reducible first | exact HB.out | apply below_alloc | apply pw_below_drewN | apply below_drew1) | exact HB.out)) hb); have n1_ := Aside0.mk (hbox); have n2_ := Aside0.mk ((by rw [hg]; exact (below_size (by repeat (first | (with_reducible first | exact HB.out | apply below_alloc | apply pw_below_drewN | apply below_drew1) | exact HB.out))) : w.heap.size ≤ gb173)); have n3_ := Aside0.mk ((by rw [hg]; exact (below_size (by repeat (first | (with_reducible first | exact HB.out | apply below_alloc | apply pw_below_drewN | apply below_drew1) | exact HB.out))) : w.heap.size ≤ gb173)); clear HB; have HB := n0_; have BK173 := n1_; have GW173 := n2_; have GE173 := n3_; clear n0_ n1_ n2_ n3_; clear hb hbox hg) | ((with_reducible refine gate_dst (N := 3) rfl ?_); refine box_event ?hg (N := 3) ?hd (cs := #[.int .i64 a1_0, .int .i64 a1_1, .int .i64 a1_2, .int .i64 a1_3, .int .i64 a1_4, .int .i64 a1_5]) (t := 43) ?hr ?_; (case hd => rfl); (case hg => rfl); (case hr => first | (go_simp; done) | (go_simp; rfl)); intro gb174 hg w24 hbox hb; have n0_ := Aside0.mk (blk_below (g := gb173) (o := .cells #[.slice A0_0 l0_0.length c0_0, .bool a0_1] 30 (0, 0)) (by (with_reducible repeat (first | refine blk_drewN ?_ _ | refine blk_drew ?_ | refine blk_alloc ?_ _)); exact BK173.out) hb); have n1_ := Aside0.mk (below_step (by repeat (first | (with_reducible first | exact HB.out | apply below_alloc | apply pw_below_drewN | apply below_drew1 | refine below_set ?_ GE173.out) | exact HB.out)) hb); have n2_ := Aside0.mk (hbox); have n3_ := Aside0.mk ((by rw [hg]; exact (below_size (by repeat (first | (with_reducible first | exact HB.out | apply below_alloc | apply pw_below_drewN | apply below_drew1 | refine below_set ?_ GE173.out) | exact HB.out))) : w.heap.size ≤ gb174)); have n4_ := Aside0.mk ((by rw [hg]; exact (below_size (by repeat (first | (with_reducible first | exact HB.out | apply below_alloc | apply pw_below_drewN | apply below_drew1 | refine below_set ?_ GE173.out) | exact HB.out))) : w.heap.size ≤ gb174)); have n5_ := Aside0.mk ((by rw [hg]; exact Nat.ne_of_lt (blk_lt (g := gb173) (o := .cells #[.slice A0_0 l0_0.length c0_0, .bool a0_1] 30 (0, 0)) (by (with_reducible repeat (first | refine blk_drewN ?_ _ | refine blk_drew ?_ | refine blk_alloc ?_ _)); exact BK173.out)) : gb173 ≠ gb174)); have n6_ := Aside0.mk ((by rw [hg]; exact Nat.ne_of_gt (blk_lt (g := gb173) (o := .cells #[.slice A0_0 l0_0.length c0_0, .bool a0_1] 30 (0, 0)) (by (with_reducible repeat (first | refine blk_drewN ?_ _ | refine blk_drew ?_ | refine blk_alloc ?_ _)); exact BK173.out)) : gb174 ≠ gb173)); clear BK173; clear HB; have BK173 := n0_; have HB := n1_; have BK174 := n2_; have GW174 := n3_; have GE174 := n4_; have NB173_174 := n5_; have NB174_173 := n6_; clear n0_ n1_ n2_ n3_ n4_ n5_ n6_; clear hb hbox hg))
   have n0_ := Aside0.mk (blk_drew BK173.out)
   have n1_ := Aside0.mk (blk_drew BK174.out)
   have n2_ := Aside0.mk (below_drew1 HB.out)
   clear BK173
   clear BK174
   clear HB
   have BK173 := n0_
   have BK174 := n1_
   have HB := n2_
   clear n0_ n1_ n2_
   have p175 : 0 ≤ (3 : Int) := (by omega)
   have q175 : 3 < (l0_0.length : Int) := of_decide_eq_true (by first | (with_reducible assumption) | assumption)
   obtain ⟨ad175, A175_0, c175_0, e175, hx175_0, hl175_0, hi175_0⟩ := at_L5 HR0_0.out 3 p175 q175
   have hw175_0 := hx175_0
   (try rw [show ((3 : Int)).toNat = 3 from rfl] at hw175_0)
   (try rw [show 3 * 1 = 3 from rfl] at hw175_0)
   (try simp only [Nat.reduceMul, Nat.reduceEqDiff, Go.Addr.add, ↓reduceIte] at hw175_0)
   cases e175
   (try simp only [show (3 : Int).toNat = 3 from rfl, Nat.reduceMul, Nat.reduceEqDiff, Go.Addr.add, ↓reduceIte] at hx175_0)
   have qi175 : (3 < l0_0.length) = True := eq_true (by omega)
   (try rw [show ((3 : Int)).toNat = 3 from rfl] at hx175_0)
   replace hx175_0 := (HB.out.cell (World.block_lt_of_cell? w _ hx175_0)).trans hx175_0
   have HR175_0 := Aside0.mk hi175_0
   have HC175_0 := Aside0.mk hl175_0
   clear hi175_0 hl175_0
   replace p175 := eq_true p175
   replace q175 := eq_true q175
   refine start_ (n := 31) (S := fun w' => w'.cell? ⟨gb173, 0, none⟩ = some (.slice (some ad175) l0_0.length c0_0) ∧ w'.cell? ⟨gb173, 1, none⟩ = some (.bool a0_1) ∧ w'.cell? ⟨gb174, 0, none⟩ = some (.int .i64 a1_0) ∧ w'.cell? ⟨gb174, 1, none⟩ = some (.int .i64 a1_1) ∧ w'.cell? ⟨gb174, 2, none⟩ = some (.int .i64 a1_2) ∧ w'.cell? ⟨gb174, 3, none⟩ = some (.int .i64 a1_3) ∧ w'.cell? ⟨gb174, 4, none⟩ = some (.int .i64 a1_4) ∧ w'.cell? ⟨gb174, 5, none⟩ = some (.int .i64 a1_5) ∧ w'.cell? ⟨ad175.block, ad175.off + 3, none⟩ = some (.slice A175_0 (rd_L5 l0_0 3).length c175_0)) (ds := []) #[false, false, false, false, false, false, false, false, false, false, false, false, false, false, false, false, false, false, false, false, false, false, false, false, false, false, false, false, false, false, false] (by kernel_rfl) rfl rfl ⟨(blk_cell BK173.out 0).trans rfl, (blk_cell BK173.out 1).trans rfl, (blk_cell BK174.out 0).trans rfl, (blk_cell BK174.out 1).trans rfl, (blk_cell BK174.out 2).trans rfl, (blk_cell BK174.out 3).trans rfl, (blk_cell BK174.out 4).trans rfl, (blk_cell BK174.out 5).trans rfl, ((HB.out.cell (World.block_lt_of_cell? w _ hw175_0)).trans hw175_0)⟩ (fun hHeld => ?_); refine with_tabW spec_DayFits.tab1 spec_DayFits.bits1 (fun HT_ HW_ => ?_)
   generalize w24.drew = w25 at BK173 BK174 HB HR175_0 hx175_0 hHeld ⊢
   refine pure_ (i := 0) (N := some 5) (v := ?_) (a' := ?_) #[true, false, false, false, false, false, false, false, false, false, false, false, false, false, false, false, false, false, false, false, false, false, false, false, false, false, false, false, false, false, false] rfl rfl (any_of HT_.out (by kernel_rfl)) (fun _ _ _ h => h) (Or.inl ⟨by rfl, ?_⟩) ?_ ?_
   rotate_left
   ·intro w'
    go_simp
    with_reducible rfl
   rotate_left
   ·simp only [Act.put, List.setIfInBounds_toArray, List.set_cons_zero, List.set_cons_succ, i64_w, i32_w]
    rfl
   refine pure_ (i := 4) (N := some 9) (v := ?_) (a' := ?_) #[true, false, false, false, true, false, false, false, false, false, false, false, false, false, false, false, false, false, false, false, false, false, false, false, false, false, false, false, false, false, false] rfl rfl (any_of HT_.out (by kernel_rfl)) (fun _ _ _ h => h) (Or.inl ⟨by rfl, ?_⟩) ?_ ?_
   rotate_left
   ·intro w'
    go_simp
    with_reducible rfl
   rotate_left
   ·simp only [Act.put, List.setIfInBounds_toArray, List.set_cons_zero, List.set_cons_succ, i64_w, i32_w]
    rfl
   refine take_ (i := 1) (N := some 6) (v := ?_) (a' := ?_) #[true, true, false, false, true, false, false, false, false, false, false, false, false, false, false, false, false, false, false, false, false, false, false, false, false, false, false, false, false, false, false] rfl rfl (take_ofW HT_.out HW_.out (by kernel_rfl)) (fun _ _ _ h => h) (Or.inl ⟨by rfl, ?_⟩) hHeld ?_ ?_
   rotate_left
   ·rintro w' ⟨s0, s1, s2, s3, s4, s5, s6, s7, s8⟩
    go_simp
    with_reducible rfl
   rotate_left
   ·simp only [Act.put, List.setIfInBounds_toArray, List.set_cons_zero, List.set_cons_succ, i64_w, i32_w]
    rfl
   refine pure_ (i := 2) (N := some 7) (v := ?_) (a' := ?_) #[true, true, true, false, true, false, false, false, false, false, false, false, false, false, false, false, false, false, false, false, false, false, false, false, false, false, false, false, false, false, false] rfl rfl (any_of HT_.out (by kernel_rfl)) (fun _ _ _ h => h) (Or.inl ⟨by rfl, ?_⟩) ?_ ?_
   rotate_left
   ·intro w'
    go_simp
    with_reducible rfl
   rotate_left
   ·simp only [Act.put, List.setIfInBounds_toArray, List.set_cons_zero, List.set_cons_succ, i64_w, i32_w]
    rfl
   refine take_ (i := 3) (N := some 8) (v := ?_) (a' := ?_) #[true, true, true, true, true, false, false, false, false, false, false, false, false, false, false, false, false, false, false, false, false, false, false, false, false, false, false, false, false, false, false] rfl rfl (take_ofW HT_.out HW_.out (by kernel_rfl)) (fun _ _ _ h => h) (Or.inl ⟨by rfl, ?_⟩) hHeld ?_ ?_
   rotate_left
   ·rintro w' ⟨s0, s1, s2, s3, s4, s5, s6, s7, s8⟩
    go_simp
    with_reducible rfl
   rotate_left
   ·simp only [Act.put, List.setIfInBounds_toArray, List.set_cons_zero, List.set_cons_succ, i64_w, i32_w]
    rfl
   refine take_ (i := 5) (N := some 10) (v := ?_) (a' := ?_) #[true, true, true, true, true, true, false, false, false, false, false, false, false, false, false, false, false, false, false, false, false, false, false, false, false, false, false, false, false, false, false] rfl rfl (take_ofW HT_.out HW_.out (by kernel_rfl)) (fun _ _ _ h => h) (Or.inl ⟨by rfl, ?_⟩) hHeld ?_ ?_
   rotate_left
   ·rintro w' ⟨s0, s1, s2, s3, s4, s5, s6, s7, s8⟩
    go_simp
    with_reducible rfl
   rotate_left
   ·simp only [Act.put, List.setIfInBounds_toArray, List.set_cons_zero, List.set_cons_succ, i64_w, i32_w]
    rfl
   refine one_ (i := 6) (N := some 11) #[true, true, true, true, true, true, true, false, false, false, false, false, false, false, false, false, false, false, false, false, false, false, false, false, false, false, false, false, false, false, false] rfl rfl (one_of HT_.out (by kernel_rfl)) (by decide) (fun K hK => ?_)
   refine goes_ Tryz.func36 (by kernel_rfl) rfl #[.int .i64 3, .slice A175_0 (rd_L5 l0_0 3).length c175_0, .int .i64 a1_2] (by rfl) rfl rfl (by (try simp only [List.map_toArray, List.map_cons, List.map_nil]); first | done | rfl | (simp only [List.length_drop, List.length_take]; rfl)) ?_
   with_reducible refine (spec_Has.calls k 3 _ _ (rd_L5 l0_0 3) a1_2 false _ ?side1 ?side2 A4.out).mono ?_
   (case side1 => repeat (first | exact (Kd.C_below HR175_0.out HB.out) | (with_reducible refine Kd.C_alloc ?_ _) | (with_reducible refine Kd.C_drewN ?_ _) | (with_reducible refine Kd.C_drew ?_)))
   (case side2 => exact HC175_0.out)
   rintro e w26 ⟨rfl, hb⟩
   refine ⟨_, rfl, ?_⟩
   have n0_ := Aside0.mk (blk_below (g := gb173) (o := .cells #[.slice (some ad175) l0_0.length c0_0, .bool a0_1] 30 (0, 0)) (by (with_reducible repeat (first | refine blk_drewN ?_ _ | refine blk_drew ?_ | refine blk_alloc ?_ _)); exact BK173.out) hb)
   have n1_ := Aside0.mk (blk_below (g := gb174) (o := .cells #[.int .i64 a1_0, .int .i64 a1_1, .int .i64 a1_2, .int .i64 a1_3, .int .i64 a1_4, .int .i64 a1_5] 43 (0, 0)) (by (with_reducible repeat (first | refine blk_drewN ?_ _ | refine blk_drew ?_ | refine blk_alloc ?_ _)); exact BK174.out) hb)
   have n2_ := Aside0.mk (below_step (by repeat (first | (with_reducible first | exact HB.out | apply below_alloc | apply pw_below_drewN | apply below_drew1 | refine below_set ?_ GE173.out | refine below_set ?_ GE174.out) | exact HB.out)) hb)
   clear BK173
   clear BK174
   clear HB
   have BK173 := n0_
   have BK174 := n1_
   have HB := n2_
   clear n0_ n1_ n2_
   (try clear hb)
   (try clear hb2)
   (try clear hk)
   (try clear hi)
   refine hK.out _ _ ⟨(blk_cell BK173.out 0).trans rfl, (blk_cell BK173.out 1).trans rfl, (blk_cell BK174.out 0).trans rfl, (blk_cell BK174.out 1).trans rfl, (blk_cell BK174.out 2).trans rfl, (blk_cell BK174.out 3).trans rfl, (blk_cell BK174.out 4).trans rfl, (blk_cell BK174.out 5).trans rfl, ((HB.out.cell (World.block_lt_of_cell? w _ hw175_0)).trans hw175_0)⟩ (fun hHeld => ?_)
   clear hK K
   refine norm_ (a' := ?_) ?_ ?_
   rotate_left
   ·show Act.put _ (some 11) _ = _
    simp only [Act.put, List.setIfInBounds_toArray, List.set_cons_zero, List.set_cons_succ, i64_w, i32_w]
    rfl
   refine pure_ (i := 7) (N := some 12) (v := ?_) (a' := ?_) #[true, true, true, true, true, true, true, true, false, false, false, false, false, false, false, false, false, false, false, false, false, false, false, false, false, false, false, false, false, false, false] rfl rfl (any_of HT_.out (by kernel_rfl)) (fun _ _ _ h => h) (Or.inl ⟨by rfl, ?_⟩) ?_ ?_
   rotate_left
   ·intro w'
    go_simp
    with_reducible rfl
   rotate_left
   ·simp only [Act.put, List.setIfInBounds_toArray, List.set_cons_zero, List.set_cons_succ, i64_w, i32_w]
    rfl
   refine pure_ (i := 8) (N := some 13) (v := undef) (a' := ?_) #[true, true, true, true, true, true, true, true, true, false, false, false, false, false, false, false, false, false, false, false, false, false, false, false, false, false, false, false, false, false, false] rfl rfl (any_of HT_.out (by kernel_rfl)) (fun _ _ _ h => h) (Or.inr ⟨by rfl, rfl⟩) ?_ ?_
   rotate_left
   ·simp only [Act.put, List.setIfInBounds_toArray, List.set_cons_zero, List.set_cons_succ, i64_w, i32_w]
    rfl
   refine pure_ (i := 9) (N := some 14) (v := undef) (a' := ?_) #[true, true, true, true, true, true, true, true, true, true, false, false, false, false, false, false, false, false, false, false, false, false, false, false, false, false, false, false, false, false, false] rfl rfl (any_of HT_.out (by kernel_rfl)) (fun _ _ _ h => h) (Or.inr ⟨by rfl, rfl⟩) ?_ ?_
   rotate_left
   ·simp only [Act.put, List.setIfInBounds_toArray, List.set_cons_zero, List.set_cons_succ, i64_w, i32_w]
    rfl
   refine pure_ (i := 10) (N := some 15) (v := undef) (a' := ?_) #[true, true, true, true, true, true, true, true, true, true, true, false, false, false, false, false, false, false, false, false, false, false, false, false, false, false, false, false, false, false, false] rfl rfl (any_of HT_.out (by kernel_rfl)) (fun _ _ _ h => h) (Or.inr ⟨by rfl, rfl⟩) ?_ ?_
   rotate_left
   ·simp only [Act.put, List.setIfInBounds_toArray, List.set_cons_zero, List.set_cons_succ, i64_w, i32_w]
    rfl
   refine pure_ (i := 11) (N := some 16) (v := undef) (a' := ?_) #[true, true, true, true, true, true, true, true, true, true, true, true, false, false, false, false, false, false, false, false, false, false, false, false, false, false, false, false, false, false, false] rfl rfl (any_of HT_.out (by kernel_rfl)) (fun _ _ _ h => h) (Or.inr ⟨by rfl, rfl⟩) ?_ ?_
   rotate_left
   ·simp only [Act.put, List.setIfInBounds_toArray, List.set_cons_zero, List.set_cons_succ, i64_w, i32_w]
    rfl
   refine pure_ (i := 12) (N := some 17) (v := undef) (a' := ?_) #[true, true, true, true, true, true, true, true, true, true, true, true, true, false, false, false, false, false, false, false, false, false, false, false, false, false, false, false, false, false, false] rfl rfl (any_of HT_.out (by kernel_rfl)) (fun _ _ _ h => h) (Or.inr ⟨by rfl, rfl⟩) ?_ ?_
   rotate_left
   ·simp only [Act.put, List.setIfInBounds_toArray, List.set_cons_zero, List.set_cons_succ, i64_w, i32_w]
    rfl
   refine pure_ (i := 13) (N := some 18) (v := undef) (a' := ?_) #[true, true, true, true, true, true, true, true, true, true, true, true, true, true, false, false, false, false, false, false, false, false, false, false, false, false, false, false, false, false, false] rfl rfl (any_of HT_.out (by kernel_rfl)) (fun _ _ _ h => h) (Or.inr ⟨by rfl, rfl⟩) ?_ ?_
   rotate_left
   ·simp only [Act.put, List.setIfInBounds_toArray, List.set_cons_zero, List.set_cons_succ, i64_w, i32_w]
    rfl
   refine pure_ (i := 14) (N := some 19) (v := undef) (a' := ?_) #[true, true, true, true, true, true, true, true, true, true, true, true, true, true, true, false, false, false, false, false, false, false, false, false, false, false, false, false, false, false, false] rfl rfl (any_of HT_.out (by kernel_rfl)) (fun _ _ _ h => h) (Or.inr ⟨by rfl, rfl⟩) ?_ ?_
   rotate_left
   ·simp only [Act.put, List.setIfInBounds_toArray, List.set_cons_zero, List.set_cons_succ, i64_w, i32_w]
    rfl
   refine pure_ (i := 15) (N := some 20) (v := ?_) (a' := ?_) #[true, true, true, true, true, true, true, true, true, true, true, true, true, true, true, true, false, false, false, false, false, false, false, false, false, false, false, false, false, false, false] rfl rfl (any_of HT_.out (by kernel_rfl)) (fun _ _ _ h => h) (Or.inl ⟨by rfl, ?_⟩) ?_ ?_
   rotate_left
   ·intro w'
    go_simp
    with_reducible rfl
   rotate_left
   ·simp only [Act.put, List.setIfInBounds_toArray, List.set_cons_zero, List.set_cons_succ, i64_w, i32_w]
    rfl
   refine pure_ (i := 16) (N := some 21) (v := ?_) (a' := ?_) #[true, true, true, true, true, true, true, true, true, true, true, true, true, true, true, true, true, false, false, false, false, false, false, false, false, false, false, false, false, false, false] rfl rfl (any_of HT_.out (by kernel_rfl)) (fun _ _ _ h => h) (Or.inl ⟨by rfl, ?_⟩) ?_ ?_
   rotate_left
   ·intro w'
    go_simp
    with_reducible rfl
   rotate_left
   ·simp only [Act.put, List.setIfInBounds_toArray, List.set_cons_zero, List.set_cons_succ, i64_w, i32_w]
    rfl
   refine pure_ (i := 17) (N := some 22) (v := undef) (a' := ?_) #[true, true, true, true, true, true, true, true, true, true, true, true, true, true, true, true, true, true, false, false, false, false, false, false, false, false, false, false, false, false, false] rfl rfl (any_of HT_.out (by kernel_rfl)) (fun _ _ _ h => h) (Or.inr ⟨by rfl, rfl⟩) ?_ ?_
   rotate_left
   ·simp only [Act.put, List.setIfInBounds_toArray, List.set_cons_zero, List.set_cons_succ, i64_w, i32_w]
    rfl
   refine pure_ (i := 18) (N := some 23) (v := undef) (a' := ?_) #[true, true, true, true, true, true, true, true, true, true, true, true, true, true, true, true, true, true, true, false, false, false, false, false, false, false, false, false, false, false, false] rfl rfl (any_of HT_.out (by kernel_rfl)) (fun _ _ _ h => h) (Or.inr ⟨by rfl, rfl⟩) ?_ ?_
   rotate_left
   ·simp only [Act.put, List.setIfInBounds_toArray, List.set_cons_zero, List.set_cons_succ, i64_w, i32_w]
    rfl
   refine pure_ (i := 19) (N := some 24) (v := undef) (a' := ?_) #[true, true, true, true, true, true, true, true, true, true, true, true, true, true, true, true, true, true, true, true, false, false, false, false, false, false, false, false, false, false, false] rfl rfl (any_of HT_.out (by kernel_rfl)) (fun _ _ _ h => h) (Or.inr ⟨by rfl, rfl⟩) ?_ ?_
   rotate_left
   ·simp only [Act.put, List.setIfInBounds_toArray, List.set_cons_zero, List.set_cons_succ, i64_w, i32_w]
    rfl
   refine pure_ (i := 20) (N := some 25) (v := undef) (a' := ?_) #[true, true, true, true, true, true, true, true, true, true, true, true, true, true, true, true, true, true, true, true, true, false, false, false, false, false, false, false, false, false, false] rfl rfl (any_of HT_.out (by kernel_rfl)) (fun _ _ _ h => h) (Or.inr ⟨by rfl, rfl⟩) ?_ ?_
   rotate_left
   ·simp only [Act.put, List.setIfInBounds_toArray, List.set_cons_zero, List.set_cons_succ, i64_w, i32_w]
    rfl
   refine pure_ (i := 21) (N := some 26) (v := undef) (a' := ?_) #[true, true, true, true, true, true, true, true, true, true, true, true, true, true, true, true, true, true, true, true, true, true, false, false, false, false, false, false, false, false, false] rfl rfl (any_of HT_.out (by kernel_rfl)) (fun _ _ _ h => h) (Or.inr ⟨by rfl, rfl⟩) ?_ ?_
   rotate_left
   ·simp only [Act.put, List.setIfInBounds_toArray, List.set_cons_zero, List.set_cons_succ, i64_w, i32_w]
    rfl
   refine pure_ (i := 22) (N := some 27) (v := undef) (a' := ?_) #[true, true, true, true, true, true, true, true, true, true, true, true, true, true, true, true, true, true, true, true, true, true, true, false, false, false, false, false, false, false, false] rfl rfl (any_of HT_.out (by kernel_rfl)) (fun _ _ _ h => h) (Or.inr ⟨by rfl, rfl⟩) ?_ ?_
   rotate_left
   ·simp only [Act.put, List.setIfInBounds_toArray, List.set_cons_zero, List.set_cons_succ, i64_w, i32_w]
    rfl
   refine pure_ (i := 23) (N := some 28) (v := undef) (a' := ?_) #[true, true, true, true, true, true, true, true, true, true, true, true, true, true, true, true, true, true, true, true, true, true, true, true, false, false, false, false, false, false, false] rfl rfl (any_of HT_.out (by kernel_rfl)) (fun _ _ _ h => h) (Or.inr ⟨by rfl, rfl⟩) ?_ ?_
   rotate_left
   ·simp only [Act.put, List.setIfInBounds_toArray, List.set_cons_zero, List.set_cons_succ, i64_w, i32_w]
    rfl
   refine pure_ (i := 24) (N := some 29) (v := undef) (a' := ?_) #[true, true, true, true, true, true, true, true, true, true, true, true, true, true, true, true, true, true, true, true, true, true, true, true, true, false, false, false, false, false, false] rfl rfl (any_of HT_.out (by kernel_rfl)) (fun _ _ _ h => h) (Or.inr ⟨by rfl, rfl⟩) ?_ ?_
   rotate_left
   ·simp only [Act.put, List.setIfInBounds_toArray, List.set_cons_zero, List.set_cons_succ, i64_w, i32_w]
    rfl
   refine pure_ (i := 25) (N := some 30) (v := undef) (a' := ?_) #[true, true, true, true, true, true, true, true, true, true, true, true, true, true, true, true, true, true, true, true, true, true, true, true, true, true, false, false, false, false, false] rfl rfl (any_of HT_.out (by kernel_rfl)) (fun _ _ _ h => h) (Or.inr ⟨by rfl, rfl⟩) ?_ ?_
   rotate_left
   ·simp only [Act.put, List.setIfInBounds_toArray, List.set_cons_zero, List.set_cons_succ, i64_w, i32_w]
    rfl
   refine pure_ (i := 26) (N := some 31) (v := undef) (a' := ?_) #[true, true, true, true, true, true, true, true, true, true, true, true, true, true, true, true, true, true, true, true, true, true, true, true, true, true, true, false, false, false, false] rfl rfl (any_of HT_.out (by kernel_rfl)) (fun _ _ _ h => h) (Or.inr ⟨by rfl, rfl⟩) ?_ ?_
   rotate_left
   ·simp only [Act.put, List.setIfInBounds_toArray, List.set_cons_zero, List.set_cons_succ, i64_w, i32_w]
    rfl
   refine pure_ (i := 27) (N := some 32) (v := undef) (a' := ?_) #[true, true, true, true, true, true, true, true, true, true, true, true, true, true, true, true, true, true, true, true, true, true, true, true, true, true, true, true, false, false, false] rfl rfl (any_of HT_.out (by kernel_rfl)) (fun _ _ _ h => h) (Or.inr ⟨by rfl, rfl⟩) ?_ ?_
   rotate_left
   ·simp only [Act.put, List.setIfInBounds_toArray, List.set_cons_zero, List.set_cons_succ, i64_w, i32_w]
    rfl
   refine pure_ (i := 28) (N := some 33) (v := undef) (a' := ?_) #[true, true, true, true, true, true, true, true, true, true, true, true, true, true, true, true, true, true, true, true, true, true, true, true, true, true, true, true, true, false, false] rfl rfl (any_of HT_.out (by kernel_rfl)) (fun _ _ _ h => h) (Or.inr ⟨by rfl, rfl⟩) ?_ ?_
   rotate_left
   ·simp only [Act.put, List.setIfInBounds_toArray, List.set_cons_zero, List.set_cons_succ, i64_w, i32_w]
    rfl
   refine pure_ (i := 29) (N := some 34) (v := ?_) (a' := ?_) #[true, true, true, true, true, true, true, true, true, true, true, true, true, true, true, true, true, true, true, true, true, true, true, true, true, true, true, true, true, true, false] rfl rfl (any_of HT_.out (by kernel_rfl)) (fun _ _ _ h => h) (Or.inl ⟨by rfl, ?_⟩) ?_ ?_
   rotate_left
   ·intro w'
    go_simp
    with_reducible rfl
   rotate_left
   ·simp only [Act.put, List.setIfInBounds_toArray, List.set_cons_zero, List.set_cons_succ, i64_w, i32_w]
    rfl
   refine pure_ (i := 30) (N := some 4) (v := ?_) (a' := ?_) #[true, true, true, true, true, true, true, true, true, true, true, true, true, true, true, true, true, true, true, true, true, true, true, true, true, true, true, true, true, true, true] rfl rfl (any_of HT_.out (by kernel_rfl)) (fun _ _ _ h => h) (Or.inl ⟨by rfl, ?_⟩) ?_ ?_
   rotate_left
   ·intro w'
    go_simp
    with_reducible rfl
   rotate_left
   ·simp only [Act.put, List.setIfInBounds_toArray, List.set_cons_zero, List.set_cons_succ, i64_w, i32_w]
    rfl
   refine done_ (done_of HT_.out (by kernel_rfl)) ?_
   try go_wp2
   go_ret
   exact ⟨by first | rfl | (simp [errW_none, errW_some] <;> rfl) | (simp [*, errW_none, errW_some] <;> rfl), by repeat (first | (with_reducible first | exact HB.out | apply below_alloc | apply pw_below_drewN | apply below_drew1 | refine below_set ?_ GE173.out | refine below_set ?_ GE174.out) | exact HB.out)⟩
 ·rw [if_neg c3] at H
  exact absurd H (by simp)
end Go.Proofs.YtemgofomhjabpaaGreatDoor.Core
namespace Go.Proofs.YtemgofomhjabpaaGreatDoor.Core
open Go.RowKit Go.Proofs.YtemgofomhjabpaaGreatDoorW.PrintWords Go.Proofs.YtemgofomhjabpaaGreatDoorW.PrintLast Go.Proofs.YtemgofomhjabpaaGreatDoorW.PrintMore
attribute [local go_sem] max2_int min2_int max_two min_two max_three min_three max_four min_four   -- for this text's walks alone
set_option linter.unusedVariables false
set_option linter.unusedSimpArgs false
def spec_Fits.f (k : Nat) (l0_0 : List (List (S38))) (a0_1 : Bool) (a1_0 : Int) (a1_1 : Int) (a1_2 : Int) (a1_3 : Int) (a1_4 : Int) (a1_5 : Int) : Option (Bool) := (spec_DayFits.f k l0_0 a0_1 a1_0 a1_1 a1_2 a1_3 a1_4 a1_5).bind fun t184 => (if t184 = true then (if 2 < (l0_0.length : Int) then ((spec_Has.f k 2 (rd_L5 l0_0 2) a1_3).bind fun t186 => (if t186 = true then (if 1 < (l0_0.length : Int) then ((spec_Has.f k 1 (rd_L5 l0_0 1) a1_4).bind fun t188 => (if t188 = true then (if 0 < (l0_0.length : Int) then ((spec_Has.f k 0 (rd_L5 l0_0 0) a1_5).bind fun t190 => (some t190)) else (none)) else (some false))) else (none)) else (some false))) else (none)) else (some false))
def spec_Fits.T1 : Bool × List (List Nat × List Nat) := (true, [([], []), ([], []), ([0, 1], [0, 1]), ([2, 2], [2]), ([3], [3]), ([4, 3], [3, 4]), ([5, 3], [3, 5]), ([6, 3], [3, 6]), ([3], [3]), ([8, 3], [3, 8]), ([7, 9, 3, 3], [3, 7, 9]), ([3, 10], [3, 10]), ([11, 10], [11]), ([12], [12]), ([13, 12], [12, 13]), ([14, 12], [12, 14]), ([15, 12], [12, 15]), ([12], [12]), ([17, 12], [12, 17]), ([16, 18, 12, 12], [12, 16, 18]), ([12, 19], [12, 19]), ([20, 19], [20]), ([21], [21]), ([22, 21], [21, 22]), ([23, 21], [21, 23]), ([24, 21], [21, 24]), ([21], [21]), ([26, 21], [21, 26]), ([25, 27, 21, 21], [21, 25, 27]), ([21, 28], [21, 28]), ([29, 28, 0, 1, 2, 3, 4, 5, 6, 7, 8, 9, 10, 11, 12, 13, 14, 15, 16, 17, 18, 19, 20, 21, 22, 23, 24, 25, 26, 27, 28, 29], [29])])
def spec_Fits.B1 : List Nat := [0, 0, 3, 7, 15, 31, 63, 127, 15, 271, 1023, 2047, 4095, 8191, 16383, 32767, 65535, 8191, 139263, 524287, 1048575, 2097151, 4194303, 8388607, 16777215, 33554431, 4194303, 71303167, 268435455, 536870911, 1073741823]
theorem spec_Fits.tab1 : rtab .any (opsOf Tryz.f18 1) = spec_Fits.T1 := by kernel_rfl
theorem spec_Fits.bits1 : waitsOk spec_Fits.T1.2 spec_Fits.B1 = true := by kernel_rfl
set_option maxHeartbeats 8000000 in
set_option maxRecDepth 100000 in
theorem spec_Fits.calls (k : Nat) (A0_0 : Option Addr) (c0_0 : Nat) (l0_0 : List (List (S38))) (a0_1 : Bool) (a1_0 : Int) (a1_1 : Int) (a1_2 : Int) (a1_3 : Int) (a1_4 : Int) (a1_5 : Int) (r : Bool) (w : World) (hr0_0 : Kd.C (Kd.slice 38 k38) w A0_0 l0_0.length l0_0) (hc0_0 : l0_0.length ≤ c0_0) (h : spec_Fits.f k l0_0 a0_1 a1_0 a1_1 a1_2 a1_3 a1_4 a1_5 = some r) :
  Calls Tryz.prog 18 #[.agg #[.slice A0_0 l0_0.length c0_0, .bool a0_1], .agg #[.int .i64 a1_0, .int .i64 a1_1, .int .i64 a1_2, .int .i64 a1_3, .int .i64 a1_4, .int .i64 a1_5]] w fun e w' => e = .returned (.bool r) ∧ Below w.heap.size w w' := by
 have hu30 := Tryz.underlying30
 have hu43 := Tryz.underlying43
 have HR0_0 := Aside0.mk hr0_0
 have HC0_0 := Aside0.mk hc0_0
 clear hr0_0 hc0_0
 have HB := Aside0.mk (Below.refl w.heap.size w)
 have H : ((spec_DayFits.f k l0_0 a0_1 a1_0 a1_1 a1_2 a1_3 a1_4 a1_5).bind fun t184 => (if t184 = true then (if 2 < (l0_0.length : Int) then ((spec_Has.f k 2 (rd_L5 l0_0 2) a1_3).bind fun t186 => (if t186 = true then (if 1 < (l0_0.length : Int) then ((spec_Has.f k 1 (rd_L5 l0_0 1) a1_4).bind fun t188 => (if t188 = true then (if 0 < (l0_0.length : Int) then ((spec_Has.f k 0 (rd_L5 l0_0 0) a1_5).bind fun t190 => (some t190)) else (none)) else (some false))) else (none)) else (some false))) else (none)) else (some false))) = some r := h
 clear h
 replace H := Option.bind_eq_some_iff.mp H
 obtain ⟨t184, A30, H⟩ := H
 replace H : (if t184 = true then (if 2 < (l0_0.length : Int) then ((spec_Has.f k 2 (rd_L5 l0_0 2) a1_3).bind fun t186 => (if t186 = true then (if 1 < (l0_0.length : Int) then ((spec_Has.f k 1 (rd_L5 l0_0 1) a1_4).bind fun t188 => (if t188 = true then (if 0 < (l0_0.length : Int) then ((spec_Has.f k 0 (rd_L5 l0_0 0) a1_5).bind fun t190 => (some t190)) else (none)) else (some false))) else (none)) else (some false))) else (none)) else (some false)) = some r := H
 have A3 := Aside0.mk A30
 clear A30
 by_cases c4 : t184 = true
 ·subst c4
  have H1 : (if 2 < (l0_0.length : Int) then ((spec_Has.f k 2 (rd_L5 l0_0 2) a1_3).bind fun t186 => (if t186 = true then (if 1 < (l0_0.length : Int) then ((spec_Has.f k 1 (rd_L5 l0_0 1) a1_4).bind fun t188 => (if t188 = true then (if 0 < (l0_0.length : Int) then ((spec_Has.f k 0 (rd_L5 l0_0 0) a1_5).bind fun t190 => (some t190)) else (none)) else (some false))) else (none)) else (some false))) else (none)) = some r := by rw [if_pos rfl] at H; exact H
  clear H
  have H := H1
  clear H1
  by_cases c5 : 2 < (l0_0.length : Int)
  ·rw [if_pos c5] at H
   have c5b0 : decide (2 < (l0_0.length : Int)) = true := decide_eq_true c5
   have c5b1 : decide (2 < l0_0.length) = true := decide_eq_true (by omega)
   clear c5
   replace H := Option.bind_eq_some_iff.mp H
   obtain ⟨t186, A60, H⟩ := H
   replace H : (if t186 = true then (if 1 < (l0_0.length : Int) then ((spec_Has.f k 1 (rd_L5 l0_0 1) a1_4).bind fun t188 => (if t188 = true then (if 0 < (l0_0.length : Int) then ((spec_Has.f k 0 (rd_L5 l0_0 0) a1_5).bind fun t190 => (some t190)) else (none)) else (some false))) else (none)) else (some false)) = some r := H
   have A6 := Aside0.mk A60
   clear A60
   by_cases c7 : t186 = true
   ·subst c7
    have H1 : (if 1 < (l0_0.length : Int) then ((spec_Has.f k 1 (rd_L5 l0_0 1) a1_4).bind fun t188 => (if t188 = true then (if 0 < (l0_0.length : Int) then ((spec_Has.f k 0 (rd_L5 l0_0 0) a1_5).bind fun t190 => (some t190)) else (none)) else (some false))) else (none)) = some r := by rw [if_pos rfl] at H; exact H
    clear H
    have H := H1
    clear H1
    by_cases c8 : 1 < (l0_0.length : Int)
    ·rw [if_pos c8] at H
     have c8b0 : decide (1 < (l0_0.length : Int)) = true := decide_eq_true c8
     have c8b1 : decide (1 < l0_0.length) = true := decide_eq_true (by omega)
     clear c8
     replace H := Option.bind_eq_some_iff.mp H
     obtain ⟨t188, A90, H⟩ := H
     replace H : (if t188 = true then (if 0 < (l0_0.length : Int) then ((spec_Has.f k 0 (rd_L5 l0_0 0) a1_5).bind fun t190 => (some t190)) else (none)) else (some false)) = some r := H
     have A9 := Aside0.mk A90
     clear A90
     by_cases c10 : t188 = true
     ·subst c10
      have H1 : (if 0 < (l0_0.length : Int) then ((spec_Has.f k 0 (rd_L5 l0_0 0) a1_5).bind fun t190 => (some t190)) else (none)) = some r := by rw [if_pos rfl] at H; exact H
      clear H
      have H := H1
      clear H1
      by_cases c11 : 0 < (l0_0.length : Int)
      ·rw [if_pos c11] at H
       have c11b0 : decide (0 < (l0_0.length : Int)) = true := decide_eq_true c11
       have c11b1 : decide (0 < l0_0.length) = true := decide_eq_true (by omega)
       clear c11
       replace H := Option.bind_eq_some_iff.mp H
       obtain ⟨t190, A120, H⟩ := H
       replace H : (some t190) = some r := H
       have A12 := Aside0.mk A120
       clear A120
       obtain rfl := Option.some.inj H
       go_enter Tryz.func18, Tryz.ntmps18
       try go_wp2_with (first | ((with_reducible refine gate_dst (N := 2) rfl ?_); refine box_event ?hg (N := 2) ?hd (cs := #[.slice A0_0 l0_0.length c0_0, .bool a0_1]) (t := 30) ?hr ?_; (case hd => rfl); (case hg => rfl); (case hr => first | (go_simp; done) | (go_simp; rfl)); intro gb182 hg w13 hbox hb; have n0_ := Aside0.mk (below_step (by repeat (first | (with_reducible first | exact HB.out | apply below_alloc | apply pw_below_drewN | apply below_drew1) | exact HB.out)) hb); have n1_ := Aside0.mk (hbox); have n2_ := Aside0.mk ((by rw [hg]; exact (below_size (by repeat (first | (with_reducible first | exact HB.out | apply below_alloc | apply pw_below_drewN | apply below_drew1) | exact HB.out))) : w.heap.size ≤ gb182)); have n3_ := Aside0.mk ((by rw [hg]; exact (below_size (by repeat (first | (with_reducible first | exact HB.out | apply below_alloc | apply pw_below_drewN | apply below_drew1) | exact HB.out))) : w.heap.size ≤ gb182)); clear HB; have HB := n0_; have BK182 := n1_; have GW182 := n2_; have GE182 := n3_; clear n0_ n1_ n2_ n3_; clear hb hbox hg) | ((with_reducible refine gate_dst (N := 3) rfl ?_); refine box_event ?hg (N := 3) ?hd (cs := #[.int .i64 a1_0, .int .i64 a1_1, .int .i64 a1_2, .int .i64 a1_3, .int .i64 a1_4, .int .i64 a1_5]) (t := 43) ?hr ?_; (case hd => rfl); (case hg => rfl); (case hr => first | (go_simp; done) | (go_simp; rfl)); intro gb183 hg w14 hbox hb; have n0_ := Aside0.mk (blk_below (g := gb182) (o := .cells #[.slice A0_0 l0_0.length c0_0, .bool a0_1] 30 (0, 0)) (by (with_reducible repeat (first | refine blk_drewN ?_ _ | refine blk_drew ?_ | refine blk_alloc ?_ _)); exact BK182.out) hb); have n1_ := Aside0.mk (below_step (by repeat (first | (with_reducible first | exact HB.out | apply below_alloc | apply pw_below_drewN | apply below_drew1 | refine below_set ?_ GE182.out) | exact HB.out)) hb); have n2_ := Aside0.mk (hbox); have n3_ := Aside0.mk ((by rw [hg]; exact (below_size (by repeat (first | (with_reducible first | exact HB.out | apply below_alloc | apply pw_below_drewN | apply below_drew1 | refine below_set ?_ GE182.out) | exact HB.out))) : w.heap.size ≤ gb183)); have n4_ := Aside0.mk ((by rw [hg]; exact (below_size (by repeat (first | (with_reducible first | exact HB.out | apply below_alloc | apply pw_below_drewN | apply below_drew1 | refine below_set ?_ GE182.out) | exact HB.out))) : w.heap.size ≤ gb183)); have n5_ := Aside0.mk ((by rw [hg]; exact Nat.ne_of_lt (blk_lt (g := gb182) (o := .cells #[.slice A0_0 l0_0.length c0_0, .bool a0_1] 30 (0, 0)) (by (with_reducible repeat (first | refine blk_drewN ?_ _ | refine blk_drew ?_ | refine blk_alloc ?_ _)); exact BK182.out)) : gb182 ≠ gb183)); have n6_ := Aside0.mk ((by rw [hg]; exact Nat.ne_of_gt (blk_lt (g := gb182) (o := .cells #[.slice A0_0 l0_0.length c0_0, .bool a0_1] 30 (0, 0)) (by (with_reducible repeat (first | refine blk_drewN ?_ _ | refine blk_drew ?_ | refine blk_alloc ?_ _)); exact BK182.out)) : gb183 ≠ gb182)); clear BK182; clear HB; have BK182 := n0_; have HB := n1_; have BK183 := n2_; have GW183 := n3_; have GE183 := n4_; have NB182_183 := n5_; have NB183_182 := n6_; clear n0_ n1_ n2_ n3_ n4_ n5_ n6_; clear hb hbox hg))
       have n0_ := Aside0.mk (blk_drew BK182.out)
       have n1_ := Aside0.mk (blk_drew BK183.out)
       have n2_ := Aside0.mk (below_drew1 HB.out)
       clear BK182
       clear BK183
       clear HB
       have BK182 := n0_
       have BK183 := n1_
       have HB := n2_
       clear n0_ n1_ n2_
       have p185 : 0 ≤ (2 : Int) := (by omega)
       have q185 : 2 < (l0_0.length : Int) := of_decide_eq_true (by first | (with_reducible assumption) | assumption)
       obtain ⟨ad185, A185_0, c185_0, e185, hx185_0, hl185_0, hi185_0⟩ := at_L5 HR0_0.out 2 p185 q185
       have hw185_0 := hx185_0
       (try rw [show ((2 : Int)).toNat = 2 from rfl] at hw185_0)
       (try rw [show 2 * 1 = 2 from rfl] at hw185_0)
       (try simp only [Nat.reduceMul, Nat.reduceEqDiff, Go.Addr.add, ↓reduceIte] at hw185_0)
       cases e185
       (try simp only [show (2 : Int).toNat = 2 from rfl, Nat.reduceMul, Nat.reduceEqDiff, Go.Addr.add, ↓reduceIte] at hx185_0)
       have qi185 : (2 < l0_0.length) = True := eq_true (by omega)
       (try rw [show ((2 : Int)).toNat = 2 from rfl] at hx185_0)
       replace hx185_0 := (HB.out.cell (World.block_lt_of_cell? w _ hx185_0)).trans hx185_0
       have HR185_0 := Aside0.mk hi185_0
       have HC185_0 := Aside0.mk hl185_0
       clear hi185_0 hl185_0
       replace p185 := eq_true p185
       replace q185 := eq_true q185
       have p187 : 0 ≤ (1 : Int) := (by omega)
       have q187 : 1 < (l0_0.length : Int) := of_decide_eq_true (by first | (with_reducible assumption) | assumption)
       obtain ⟨ad187, A187_0, c187_0, e187, hx187_0, hl187_0, hi187_0⟩ := at_L5 HR0_0.out 1 p187 q187
       have hw187_0 := hx187_0
       (try rw [show ((1 : Int)).toNat = 1 from rfl] at hw187_0)
       (try rw [show 1 * 1 = 1 from rfl] at hw187_0)
       (try simp only [Nat.reduceMul, Nat.reduceEqDiff, Go.Addr.add, ↓reduceIte] at hw187_0)
       obtain rfl : ad185 = ad187 := (by injection e187)
       (try simp only [show (1 : Int).toNat = 1 from rfl, Nat.reduceMul, Nat.reduceEqDiff, Go.Addr.add, ↓reduceIte] at hx187_0)
       have qi187 : (1 < l0_0.length) = True := eq_true (by omega)
       (try rw [show ((1 : Int)).toNat = 1 from rfl] at hx187_0)
       replace hx187_0 := (HB.out.cell (World.block_lt_of_cell? w _ hx187_0)).trans hx187_0
       have HR187_0 := Aside0.mk hi187_0
       have HC187_0 := Aside0.mk hl187_0
       clear hi187_0 hl187_0
       replace p187 := eq_true p187
       replace q187 := eq_true q187
       have p189 : 0 ≤ (0 : Int) := (by omega)
       have q189 : 0 < (l0_0.length : Int) := of_decide_eq_true (by first | (with_reducible assumption) | assumption)
       obtain ⟨ad189, A189_0, c189_0, e189, hx189_0, hl189_0, hi189_0⟩ := at_L5 HR0_0.out 0 p189 q189
       have hw189_0 := hx189_0
       (try rw [show ((0 : Int)).toNat = 0 from rfl] at hw189_0)
       (try rw [show 0 * 1 = 0 from rfl] at hw189_0)
       (try rw [Addr.add_zero'] at hw189_0)
       obtain rfl : ad185 = ad189 := (by injection e189)
       have qi189 : (0 < l0_0.length) = True := eq_true (by omega)
       (try rw [show ((0 : Int)).toNat = 0 from rfl] at hx189_0)
       (try rw [Addr.add_zero'] at hx189_0)
       replace hx189_0 := (HB.out.cell (World.block_lt_of_cell? w _ hx189_0)).trans hx189_0
       have HR189_0 := Aside0.mk hi189_0
       have HC189_0 := Aside0.mk hl189_0
       clear hi189_0 hl189_0
       replace p189 := eq_true p189
       replace q189 := eq_true q189
       refine start_ (n := 31) (S := fun w' => w'.cell? ⟨gb182, 0, none⟩ = some (.slice (some ad185) l0_0.length c0_0) ∧ w'.cell? ⟨gb182, 1, none⟩ = some (.bool a0_1) ∧ w'.cell? ⟨gb183, 0, none⟩ = some (.int .i64 a1_0) ∧ w'.cell? ⟨gb183, 1, none⟩ = some (.int .i64 a1_1) ∧ w'.cell? ⟨gb183, 2, none⟩ = some (.int .i64 a1_2) ∧ w'.cell? ⟨gb183, 3, none⟩ = some (.int .i64 a1_3) ∧ w'.cell? ⟨gb183, 4, none⟩ = some (.int .i64 a1_4) ∧ w'.cell? ⟨gb183, 5, none⟩ = some (.int .i64 a1_5) ∧ w'.cell? ⟨ad185.block, ad185.off + 2, none⟩ = some (.slice A185_0 (rd_L5 l0_0 2).length c185_0) ∧ w'.cell? ⟨ad185.block, ad185.off + 1, none⟩ = some (.slice A187_0 (rd_L5 l0_0 1).length c187_0) ∧ w'.cell? ad185 = some (.slice A189_0 (rd_L5 l0_0 0).length c189_0)) (ds := []) #[false, false, false, false, false, false, false, false, false, false, false, false, false, false, false, false, false, false, false, false, false, false, false, false, false, false, false, false, false, false, false] (by kernel_rfl) rfl rfl ⟨(blk_cell BK182.out 0).trans rfl, (blk_cell BK182.out 1).trans rfl, (blk_cell BK183.out 0).trans rfl, (blk_cell BK183.out 1).trans rfl, (blk_cell BK183.out 2).trans rfl, (blk_cell BK183.out 3).trans rfl, (blk_cell BK183.out 4).trans rfl, (blk_cell BK183.out 5).trans rfl, ((HB.out.cell (World.block_lt_of_cell? w _ hw185_0)).trans hw185_0), ((HB.out.cell (World.block_lt_of_cell? w _ hw187_0)).trans hw187_0), ((HB.out.cell (World.block_lt_of_cell? w _ hw189_0)).trans hw189_0)⟩ (fun hHeld => ?_); refine with_tabW spec_Fits.tab1 spec_Fits.bits1 (fun HT_ HW_ => ?_)
       generalize w14.drew = w15 at BK182 BK183 HB HR185_0 HR187_0 HR189_0 hx185_0 hx187_0 hx189_0 hHeld ⊢
       refine take_ (i := 0) (N := some 5) (v := ?_) (a' := ?_) #[true, false, false, false, false, false, false, false, false, false, false, false, false, false, false, false, false, false, false, false, false, false, false, false, false, false, false, false, false, false, false] rfl rfl (take_ofW HT_.out HW_.out (by kernel_rfl)) (fun _ _ _ h => h) (Or.inl ⟨by rfl, ?_⟩) hHeld ?_ ?_
       rotate_left
       ·rintro w' ⟨s0, s1, s2, s3, s4, s5, s6, s7, s8, s9, s10⟩
        go_simp
        with_reducible rfl
       rotate_left
       ·simp only [Act.put, List.setIfInBounds_toArray, List.set_cons_zero, List.set_cons_succ, i64_w, i32_w]
        rfl
       refine take_ (i := 1) (N := some 6) (v := ?_) (a' := ?_) #[true, true, false, false, false, false, false, false, false, false, false, false, false, false, false, false, false, false, false, false, false, false, false, false, false, false, false, false, false, false, false] rfl rfl (take_ofW HT_.out HW_.out (by kernel_rfl)) (fun _ _ _ h => h) (Or.inl ⟨by rfl, ?_⟩) hHeld ?_ ?_
       rotate_left
       ·rintro w' ⟨s0, s1, s2, s3, s4, s5, s6, s7, s8, s9, s10⟩
        go_simp
        with_reducible rfl
       rotate_left
       ·simp only [Act.put, List.setIfInBounds_toArray, List.set_cons_zero, List.set_cons_succ, i64_w, i32_w]
        rfl
       refine one_ (i := 2) (N := some 7) #[true, true, true, false, false, false, false, false, false, false, false, false, false, false, false, false, false, false, false, false, false, false, false, false, false, false, false, false, false, false, false] rfl rfl (one_of HT_.out (by kernel_rfl)) (by decide) (fun K hK => ?_)
       refine goes_ Tryz.func35 (by kernel_rfl) rfl #[.agg #[.slice (some ad185) l0_0.length c0_0, .bool a0_1], .agg #[.int .i64 a1_0, .int .i64 a1_1, .int .i64 a1_2, .int .i64 a1_3, .int .i64 a1_4, .int .i64 a1_5]] (by rfl) rfl rfl (by (try simp only [List.map_toArray, List.map_cons, List.map_nil]); first | done | rfl | (simp only [List.length_drop, List.length_take]; rfl)) ?_
       with_reducible refine (spec_DayFits.calls k _ _ l0_0 a0_1 a1_0 a1_1 a1_2 a1_3 a1_4 a1_5 true _ ?side1 ?side2 A3.out).mono ?_
       (case side1 => repeat (first | exact (Kd.C_below HR0_0.out HB.out) | (with_reducible refine Kd.C_alloc ?_ _) | (with_reducible refine Kd.C_drewN ?_ _) | (with_reducible refine Kd.C_drew ?_)))
       (case side2 => exact HC0_0.out)
       rintro e w16 ⟨rfl, hb⟩
       refine ⟨_, rfl, ?_⟩
       have n0_ := Aside0.mk (blk_below (g := gb182) (o := .cells #[.slice (some ad185) l0_0.length c0_0, .bool a0_1] 30 (0, 0)) (by (with_reducible repeat (first | refine blk_drewN ?_ _ | refine blk_drew ?_ | refine blk_alloc ?_ _)); exact BK182.out) hb)
       have n1_ := Aside0.mk (blk_below (g := gb183) (o := .cells #[.int .i64 a1_0, .int .i64 a1_1, .int .i64 a1_2, .int .i64 a1_3, .int .i64 a1_4, .int .i64 a1_5] 43 (0, 0)) (by (with_reducible repeat (first | refine blk_drewN ?_ _ | refine blk_drew ?_ | refine blk_alloc ?_ _)); exact BK183.out) hb)
       have n2_ := Aside0.mk (below_step (by repeat (first | (with_reducible first | exact HB.out | apply below_alloc | apply pw_below_drewN | apply below_drew1 | refine below_set ?_ GE182.out | refine below_set ?_ GE183.out) | exact HB.out)) hb)
       clear BK182
       clear BK183
       clear HB
       have BK182 := n0_
       have BK183 := n1_
       have HB := n2_
       clear n0_ n1_ n2_
       (try clear hb)
       (try clear hb2)
       (try clear hk)
       (try clear hi)
       refine hK.out _ _ ⟨(blk_cell BK182.out 0).trans rfl, (blk_cell BK182.out 1).trans rfl, (blk_cell BK183.out 0).trans rfl, (blk_cell BK183.out 1).trans rfl, (blk_cell BK183.out 2).trans rfl, (blk_cell BK183.out 3).trans rfl, (blk_cell BK183.out 4).trans rfl, (blk_cell BK183.out 5).trans rfl, ((HB.out.cell (World.block_lt_of_cell? w _ hw185_0)).trans hw185_0), ((HB.out.cell (World.block_lt_of_cell? w _ hw187_0)).trans hw187_0), ((HB.out.cell (World.block_lt_of_cell? w _ hw189_0)).trans hw189_0)⟩ (fun hHeld => ?_)
       clear hK K
       refine norm_ (a' := ?_) ?_ ?_
       rotate_left
       ·show Act.put _ (some 7) _ = _
        simp only [Act.put, List.setIfInBounds_toArray, List.set_cons_zero, List.set_cons_succ, i64_w, i32_w]
        rfl
       refine pure_ (i := 3) (N := some 8) (v := ?_) (a' := ?_) #[true, true, true, true, false, false, false, false, false, false, false, false, false, false, false, false, false, false, false, false, false, false, false, false, false, false, false, false, false, false, false] rfl rfl (any_of HT_.out (by kernel_rfl)) (fun _ _ _ h => h) (Or.inl ⟨by rfl, ?_⟩) ?_ ?_
       rotate_left
       ·intro w'
        go_simp
        with_reducible rfl
       rotate_left
       ·simp only [Act.put, List.setIfInBounds_toArray, List.set_cons_zero, List.set_cons_succ, i64_w, i32_w]
        rfl
       refine pure_ (i := 4) (N := some 9) (v := ?_) (a' := ?_) #[true, true, true, true, true, false, false, false, false, false, false, false, false, false, false, false, false, false, false, false, false, false, false, false, false, false, false, false, false, false, false] rfl rfl (any_of HT_.out (by kernel_rfl)) (fun _ _ _ h => h) (Or.inl ⟨by rfl, ?_⟩) ?_ ?_
       rotate_left
       ·intro w'
        go_simp
        with_reducible rfl
       rotate_left
       ·simp only [Act.put, List.setIfInBounds_toArray, List.set_cons_zero, List.set_cons_succ, i64_w, i32_w]
        rfl
       refine pure_ (i := 8) (N := some 13) (v := ?_) (a' := ?_) #[true, true, true, true, true, false, false, false, true, false, false, false, false, false, false, false, false, false, false, false, false, false, false, false, false, false, false, false, false, false, false] rfl rfl (any_of HT_.out (by kernel_rfl)) (fun _ _ _ h => h) (Or.inl ⟨by rfl, ?_⟩) ?_ ?_
       rotate_left
       ·intro w'
        go_simp
        with_reducible rfl
       rotate_left
       ·simp only [Act.put, List.setIfInBounds_toArray, List.set_cons_zero, List.set_cons_succ, i64_w, i32_w]
        rfl
       refine take_ (i := 5) (N := some 10) (v := ?_) (a' := ?_) #[true, true, true, true, true, true, false, false, true, false, false, false, false, false, false, false, false, false, false, false, false, false, false, false, false, false, false, false, false, false, false] rfl rfl (take_ofW HT_.out HW_.out (by kernel_rfl)) (fun _ _ _ h => h) (Or.inl ⟨by rfl, ?_⟩) hHeld ?_ ?_
       rotate_left
       ·rintro w' ⟨s0, s1, s2, s3, s4, s5, s6, s7, s8, s9, s10⟩
        go_simp
        with_reducible rfl
       rotate_left
       ·simp only [Act.put, List.setIfInBounds_toArray, List.set_cons_zero, List.set_cons_succ, i64_w, i32_w]
        rfl
       refine pure_ (i := 6) (N := some 11) (v := ?_) (a' := ?_) #[true, true, true, true, true, true, true, false, true, false, false, false, false, false, false, false, false, false, false, false, false, false, false, false, false, false, false, false, false, false, false] rfl rfl (any_of HT_.out (by kernel_rfl)) (fun _ _ _ h => h) (Or.inl ⟨by rfl, ?_⟩) ?_ ?_
       rotate_left
       ·intro w'
        go_simp
        with_reducible rfl
       rotate_left
       ·simp only [Act.put, List.setIfInBounds_toArray, List.set_cons_zero, List.set_cons_succ, i64_w, i32_w]
        rfl
       refine take_ (i := 7) (N := some 12) (v := ?_) (a' := ?_) #[true, true, true, true, true, true, true, true, true, false, false, false, false, false, false, false, false, false, false, false, false, false, false, false, false, false, false, false, false, false, false] rfl rfl (take_ofW HT_.out HW_.out (by kernel_rfl)) (fun _ _ _ h => h) (Or.inl ⟨by rfl, ?_⟩) hHeld ?_ ?_
       rotate_left
       ·rintro w' ⟨s0, s1, s2, s3, s4, s5, s6, s7, s8, s9, s10⟩
        go_simp
        with_reducible rfl
       rotate_left
       ·simp only [Act.put, List.setIfInBounds_toArray, List.set_cons_zero, List.set_cons_succ, i64_w, i32_w]
        rfl
       refine take_ (i := 9) (N := some 14) (v := ?_) (a' := ?_) #[true, true, true, true, true, true, true, true, true, true, false, false, false, false, false, false, false, false, false, false, false, false, false, false, false, false, false, false, false, false, false] rfl rfl (take_ofW HT_.out HW_.out (by kernel_rfl)) (fun _ _ _ h => h) (Or.inl ⟨by rfl, ?_⟩) hHeld ?_ ?_
       rotate_left
       ·rintro w' ⟨s0, s1, s2, s3, s4, s5, s6, s7, s8, s9, s10⟩
        go_simp
        with_reducible rfl
       rotate_left
       ·simp only [Act.put, List.setIfInBounds_toArray, List.set_cons_zero, List.set_cons_succ, i64_w, i32_w]
        rfl
       refine one_ (i := 10) (N := some 15) #[true, true, true, true, true, true, true, true, true, true, true, false, false, false, false, false, false, false, false, false, false, false, false, false, false, false, false, false, false, false, false] rfl rfl (one_of HT_.out (by kernel_rfl)) (by decide) (fun K hK => ?_)
       refine goes_ Tryz.func36 (by kernel_rfl) rfl #[.int .i64 2, .slice A185_0 (rd_L5 l0_0 2).length c185_0, .int .i64 a1_3] (by rfl) rfl rfl (by (try simp only [List.map_toArray, List.map_cons, List.map_nil]); first | done | rfl | (simp only [List.length_drop, List.length_take]; rfl)) ?_
       with_reducible refine (spec_Has.calls k 2 _ _ (rd_L5 l0_0 2) a1_3 true _ ?side1 ?side2 A6.out).mono ?_
       (case side1 => repeat (first | exact (Kd.C_below HR185_0.out HB.out) | (with_reducible refine Kd.C_alloc ?_ _) | (with_reducible refine Kd.C_drewN ?_ _) | (with_reducible refine Kd.C_drew ?_)))
       (case side2 => exact HC185_0.out)
       rintro e w17 ⟨rfl, hb⟩
       refine ⟨_, rfl, ?_⟩
       have n0_ := Aside0.mk (blk_below (g := gb182) (o := .cells #[.slice (some ad185) l0_0.length c0_0, .bool a0_1] 30 (0, 0)) (by (with_reducible repeat (first | refine blk_drewN ?_ _ | refine blk_drew ?_ | refine blk_alloc ?_ _)); exact BK182.out) hb)
       have n1_ := Aside0.mk (blk_below (g := gb183) (o := .cells #[.int .i64 a1_0, .int .i64 a1_1, .int .i64 a1_2, .int .i64 a1_3, .int .i64 a1_4, .int .i64 a1_5] 43 (0, 0)) (by (with_reducible repeat (first | refine blk_drewN ?_ _ | refine blk_drew ?_ | refine blk_alloc ?_ _)); exact BK183.out) hb)
       have n2_ := Aside0.mk (below_step (by repeat (first | (with_reducible first | exact HB.out | apply below_alloc | apply pw_below_drewN | apply below_drew1 | refine below_set ?_ GE182.out | refine below_set ?_ GE183.out) | exact HB.out)) hb)
       clear BK182
       clear BK183
       clear HB
       have BK182 := n0_
       have BK183 := n1_
       have HB := n2_
       clear n0_ n1_ n2_
       (try clear hb)
       (try clear hb2)
       (try clear hk)
       (try clear hi)
       refine hK.out _ _ ⟨(blk_cell BK182.out 0).trans rfl, (blk_cell BK182.out 1).trans rfl, (blk_cell BK183.out 0).trans rfl, (blk_cell BK183.out 1).trans rfl, (blk_cell BK183.out 2).trans rfl, (blk_cell BK183.out 3).trans rfl, (blk_cell BK183.out 4).trans rfl, (blk_cell BK183.out 5).trans rfl, ((HB.out.cell (World.block_lt_of_cell? w _ hw185_0)).trans hw185_0), ((HB.out.cell (World.block_lt_of_cell? w _ hw187_0)).trans hw187_0), ((HB.out.cell (World.block_lt_of_cell? w _ hw189_0)).trans hw189_0)⟩ (fun hHeld => ?_)
       clear hK K
       refine norm_ (a' := ?_) ?_ ?_
       rotate_left
       ·show Act.put _ (some 15) _ = _
        simp only [Act.put, List.setIfInBounds_toArray, List.set_cons_zero, List.set_cons_succ, i64_w, i32_w]
        rfl
       refine pure_ (i := 11) (N := some 16) (v := ?_) (a' := ?_) #[true, true, true, true, true, true, true, true, true, true, true, true, false, false, false, false, false, false, false, false, false, false, false, false, false, false, false, false, false, false, false] rfl rfl (any_of HT_.out (by kernel_rfl)) (fun _ _ _ h => h) (Or.inl ⟨by rfl, ?_⟩) ?_ ?_
       rotate_left
       ·intro w'
        go_simp
        with_reducible rfl
       rotate_left
       ·simp only [Act.put, List.setIfInBounds_toArray, List.set_cons_zero, List.set_cons_succ, i64_w, i32_w]
        rfl
       refine pure_ (i := 12) (N := some 17) (v := ?_) (a' := ?_) #[true, true, true, true, true, true, true, true, true, true, true, true, true, false, false, false, false, false, false, false, false, false, false, false, false, false, false, false, false, false, false] rfl rfl (any_of HT_.out (by kernel_rfl)) (fun _ _ _ h => h) (Or.inl ⟨by rfl, ?_⟩) ?_ ?_
       rotate_left
       ·intro w'
        go_simp
        with_reducible rfl
       rotate_left
       ·simp only [Act.put, List.setIfInBounds_toArray, List.set_cons_zero, List.set_cons_succ, i64_w, i32_w]
        rfl
       refine pure_ (i := 13) (N := some 18) (v := ?_) (a' := ?_) #[true, true, true, true, true, true, true, true, true, true, true, true, true, true, false, false, false, false, false, false, false, false, false, false, false, false, false, false, false, false, false] rfl rfl (any_of HT_.out (by kernel_rfl)) (fun _ _ _ h => h) (Or.inl ⟨by rfl, ?_⟩) ?_ ?_
       rotate_left
       ·intro w'
        go_simp
        with_reducible rfl
       rotate_left
       ·simp only [Act.put, List.setIfInBounds_toArray, List.set_cons_zero, List.set_cons_succ, i64_w, i32_w]
        rfl
       refine pure_ (i := 17) (N := some 22) (v := ?_) (a' := ?_) #[true, true, true, true, true, true, true, true, true, true, true, true, true, true, false, false, false, true, false, false, false, false, false, false, false, false, false, false, false, false, false] rfl rfl (any_of HT_.out (by kernel_rfl)) (fun _ _ _ h => h) (Or.inl ⟨by rfl, ?_⟩) ?_ ?_
       rotate_left
       ·intro w'
        go_simp
        with_reducible rfl
       rotate_left
       ·simp only [Act.put, List.setIfInBounds_toArray, List.set_cons_zero, List.set_cons_succ, i64_w, i32_w]
        rfl
       refine take_ (i := 14) (N := some 19) (v := ?_) (a' := ?_) #[true, true, true, true, true, true, true, true, true, true, true, true, true, true, true, false, false, true, false, false, false, false, false, false, false, false, false, false, false, false, false] rfl rfl (take_ofW HT_.out HW_.out (by kernel_rfl)) (fun _ _ _ h => h) (Or.inl ⟨by rfl, ?_⟩) hHeld ?_ ?_
       rotate_left
       ·rintro w' ⟨s0, s1, s2, s3, s4, s5, s6, s7, s8, s9, s10⟩
        go_simp
        with_reducible rfl
       rotate_left
       ·simp only [Act.put, List.setIfInBounds_toArray, List.set_cons_zero, List.set_cons_succ, i64_w, i32_w]
        rfl
       refine pure_ (i := 15) (N := some 20) (v := ?_) (a' := ?_) #[true, true, true, true, true, true, true, true, true, true, true, true, true, true, true, true, false, true, false, false, false, false, false, false, false, false, false, false, false, false, false] rfl rfl (any_of HT_.out (by kernel_rfl)) (fun _ _ _ h => h) (Or.inl ⟨by rfl, ?_⟩) ?_ ?_
       rotate_left
       ·intro w'
        go_simp
        with_reducible rfl
       rotate_left
       ·simp only [Act.put, List.setIfInBounds_toArray, List.set_cons_zero, List.set_cons_succ, i64_w, i32_w]
        rfl
       refine take_ (i := 16) (N := some 21) (v := ?_) (a' := ?_) #[true, true, true, true, true, true, true, true, true, true, true, true, true, true, true, true, true, true, false, false, false, false, false, false, false, false, false, false, false, false, false] rfl rfl (take_ofW HT_.out HW_.out (by kernel_rfl)) (fun _ _ _ h => h) (Or.inl ⟨by rfl, ?_⟩) hHeld ?_ ?_
       rotate_left
       ·rintro w' ⟨s0, s1, s2, s3, s4, s5, s6, s7, s8, s9, s10⟩
        go_simp
        with_reducible rfl
       rotate_left
       ·simp only [Act.put, List.setIfInBounds_toArray, List.set_cons_zero, List.set_cons_succ, i64_w, i32_w]
        rfl
       refine take_ (i := 18) (N := some 23) (v := ?_) (a' := ?_) #[true, true, true, true, true, true, true, true, true, true, true, true, true, true, true, true, true, true, true, false, false, false, false, false, false, false, false, false, false, false, false] rfl rfl (take_ofW HT_.out HW_.out (by kernel_rfl)) (fun _ _ _ h => h) (Or.inl ⟨by rfl, ?_⟩) hHeld ?_ ?_
       rotate_left
       ·rintro w' ⟨s0, s1, s2, s3, s4, s5, s6, s7, s8, s9, s10⟩
        go_simp
        with_reducible rfl
       rotate_left
       ·simp only [Act.put, List.setIfInBounds_toArray, List.set_cons_zero, List.set_cons_succ, i64_w, i32_w]
        rfl
       refine one_ (i := 19) (N := some 24) #[true, true, true, true, true, true, true, true, true, true, true, true, true, true, true, true, true, true, true, true, false, false, false, false, false, false, false, false, false, false, false] rfl rfl (one_of HT_.out (by kernel_rfl)) (by decide) (fun K hK => ?_)
       refine goes_ Tryz.func36 (by kernel_rfl) rfl #[.int .i64 1, .slice A187_0 (rd_L5 l0_0 1).length c187_0, .int .i64 a1_4] (by rfl) rfl rfl (by (try simp only [List.map_toArray, List.map_cons, List.map_nil]); first | done | rfl | (simp only [List.length_drop, List.length_take]; rfl)) ?_
       with_reducible refine (spec_Has.calls k 1 _ _ (rd_L5 l0_0 1) a1_4 true _ ?side1 ?side2 A9.out).mono ?_
       (case side1 => repeat (first | exact (Kd.C_below HR187_0.out HB.out) | (with_reducible refine Kd.C_alloc ?_ _) | (with_reducible refine Kd.C_drewN ?_ _) | (with_reducible refine Kd.C_drew ?_)))
       (case side2 => exact HC187_0.out)
       rintro e w18 ⟨rfl, hb⟩
       refine ⟨_, rfl, ?_⟩
       have n0_ := Aside0.mk (blk_below (g := gb182) (o := .cells #[.slice (some ad185) l0_0.length c0_0, .bool a0_1] 30 (0, 0)) (by (with_reducible repeat (first | refine blk_drewN ?_ _ | refine blk_drew ?_ | refine blk_alloc ?_ _)); exact BK182.out) hb)
       have n1_ := Aside0.mk (blk_below (g := gb183) (o := .cells #[.int .i64 a1_0, .int .i64 a1_1, .int .i64 a1_2, .int .i64 a1_3, .int .i64 a1_4, .int .i64 a1_5] 43 (0, 0)) (by (with_reducible repeat (first | refine blk_drewN ?_ _ | refine blk_drew ?_ | refine blk_alloc ?_ _)); exact BK183.out) hb)
       have n2_ := Aside0.mk (below_step (by repeat (first | (with_reducible first | exact HB.out | apply below_alloc | apply pw_below_drewN | apply below_drew1 | refine below_set ?_ GE182.out | refine below_set ?_ GE183.out) | exact HB.out)) hb)
       clear BK182
       clear BK183
       clear HB
       have BK182 := n0_
       have BK183 := n1_
       have HB := n2_
       clear n0_ n1_ n2_
       (try clear hb)
       (try clear hb2)
       (try clear hk)
       (try clear hi)
       refine hK.out _ _ ⟨(blk_cell BK182.out 0).trans rfl, (blk_cell BK182.out 1).trans rfl, (blk_cell BK183.out 0).trans rfl, (blk_cell BK183.out 1).trans rfl, (blk_cell BK183.out 2).trans rfl, (blk_cell BK183.out 3).trans rfl, (blk_cell BK183.out 4).trans rfl, (blk_cell BK183.out 5).trans rfl, ((HB.out.cell (World.block_lt_of_cell? w _ hw185_0)).trans hw185_0), ((HB.out.cell (World.block_lt_of_cell? w _ hw187_0)).trans hw187_0), ((HB.out.cell (World.block_lt_of_cell? w _ hw189_0)).trans hw189_0)⟩ (fun hHeld => ?_)
       clear hK K
       refine norm_ (a' := ?_) ?_ ?_
       rotate_left
       ·show Act.put _ (some 24) _ = _
        simp only [Act.put, List.setIfInBounds_toArray, List.set_cons_zero, List.set_cons_succ, i64_w, i32_w]
        rfl
       refine pure_ (i := 20) (N := some 25) (v := ?_) (a' := ?_) #[true, true, true, true, true, true, true, true, true, true, true, true, true, true, true, true, true, true, true, true, true, false, false, false, false, false, false, false, false, false, false] rfl rfl (any_of HT_.out (by kernel_rfl)) (fun _ _ _ h => h) (Or.inl ⟨by rfl, ?_⟩) ?_ ?_
       rotate_left
       ·intro w'
        go_simp
        with_reducible rfl
       rotate_left
       ·simp only [Act.put, List.setIfInBounds_toArray, List.set_cons_zero, List.set_cons_succ, i64_w, i32_w]
        rfl
       refine pure_ (i := 21) (N := some 26) (v := ?_) (a' := ?_) #[true, true, true, true, true, true, true, true, true, true, true, true, true, true, true, true, true, true, true, true, true, true, false, false, false, false, false, false, false, false, false] rfl rfl (any_of HT_.out (by kernel_rfl)) (fun _ _ _ h => h) (Or.inl ⟨by rfl, ?_⟩) ?_ ?_
       rotate_left
       ·intro w'
        go_simp
        with_reducible rfl
       rotate_left
       ·simp only [Act.put, List.setIfInBounds_toArray, List.set_cons_zero, List.set_cons_succ, i64_w, i32_w]
        rfl
       refine pure_ (i := 22) (N := some 27) (v := ?_) (a' := ?_) #[true, true, true, true, true, true, true, true, true, true, true, true, true, true, true, true, true, true, true, true, true, true, true, false, false, false, false, false, false, false, false] rfl rfl (any_of HT_.out (by kernel_rfl)) (fun _ _ _ h => h) (Or.inl ⟨by rfl, ?_⟩) ?_ ?_
       rotate_left
       ·intro w'
        go_simp
        with_reducible rfl
       rotate_left
       ·simp only [Act.put, List.setIfInBounds_toArray, List.set_cons_zero, List.set_cons_succ, i64_w, i32_w]
        rfl
       refine pure_ (i := 26) (N := some 31) (v := ?_) (a' := ?_) #[true, true, true, true, true, true, true, true, true, true, true, true, true, true, true, true, true, true, true, true, true, true, true, false, false, false, true, false, false, false, false] rfl rfl (any_of HT_.out (by kernel_rfl)) (fun _ _ _ h => h) (Or.inl ⟨by rfl, ?_⟩) ?_ ?_
       rotate_left
       ·intro w'
        go_simp
        with_reducible rfl
       rotate_left
       ·simp only [Act.put, List.setIfInBounds_toArray, List.set_cons_zero, List.set_cons_succ, i64_w, i32_w]
        rfl
       refine take_ (i := 23) (N := some 28) (v := ?_) (a' := ?_) #[true, true, true, true, true, true, true, true, true, true, true, true, true, true, true, true, true, true, true, true, true, true, true, true, false, false, true, false, false, false, false] rfl rfl (take_ofW HT_.out HW_.out (by kernel_rfl)) (fun _ _ _ h => h) (Or.inl ⟨by rfl, ?_⟩) hHeld ?_ ?_
       rotate_left
       ·rintro w' ⟨s0, s1, s2, s3, s4, s5, s6, s7, s8, s9, s10⟩
        go_simp
        with_reducible rfl
       rotate_left
       ·simp only [Act.put, List.setIfInBounds_toArray, List.set_cons_zero, List.set_cons_succ, i64_w, i32_w]
        rfl
       refine pure_ (i := 24) (N := some 29) (v := ?_) (a' := ?_) #[true, true, true, true, true, true, true, true, true, true, true, true, true, true, true, true, true, true, true, true, true, true, true, true, true, false, true, false, false, false, false] rfl rfl (any_of HT_.out (by kernel_rfl)) (fun _ _ _ h => h) (Or.inl ⟨by rfl, ?_⟩) ?_ ?_
       rotate_left
       ·intro w'
        go_simp
        with_reducible rfl
       rotate_left
       ·simp only [Act.put, List.setIfInBounds_toArray, List.set_cons_zero, List.set_cons_succ, i64_w, i32_w]
        rfl
       refine take_ (i := 25) (N := some 30) (v := ?_) (a' := ?_) #[true, true, true, true, true, true, true, true, true, true, true, true, true, true, true, true, true, true, true, true, true, true, true, true, true, true, true, false, false, false, false] rfl rfl (take_ofW HT_.out HW_.out (by kernel_rfl)) (fun _ _ _ h => h) (Or.inl ⟨by rfl, ?_⟩) hHeld ?_ ?_
       rotate_left
       ·rintro w' ⟨s0, s1, s2, s3, s4, s5, s6, s7, s8, s9, s10⟩
        go_simp
        with_reducible rfl
       rotate_left
       ·simp only [Act.put, List.setIfInBounds_toArray, List.set_cons_zero, List.set_cons_succ, i64_w, i32_w]
        rfl
       refine take_ (i := 27) (N := some 32) (v := ?_) (a' := ?_) #[true, true, true, true, true, true, true, true, true, true, true, true, true, true, true, true, true, true, true, true, true, true, true, true, true, true, true, true, false, false, false] rfl rfl (take_ofW HT_.out HW_.out (by kernel_rfl)) (fun _ _ _ h => h) (Or.inl ⟨by rfl, ?_⟩) hHeld ?_ ?_
       rotate_left
       ·rintro w' ⟨s0, s1, s2, s3, s4, s5, s6, s7, s8, s9, s10⟩
        go_simp
        with_reducible rfl
       rotate_left
       ·simp only [Act.put, List.setIfInBounds_toArray, List.set_cons_zero, List.set_cons_succ, i64_w, i32_w]
        rfl
       refine one_ (i := 28) (N := some 33) #[true, true, true, true, true, true, true, true, true, true, true, true, true, true, true, true, true, true, true, true, true, true, true, true, true, true, true, true, true, false, false] rfl rfl (one_of HT_.out (by kernel_rfl)) (by decide) (fun K hK => ?_)
       refine goes_ Tryz.func36 (by kernel_rfl) rfl #[.int .i64 0, .slice A189_0 (rd_L5 l0_0 0).length c189_0, .int .i64 a1_5] (by rfl) rfl rfl (by (try simp only [List.map_toArray, List.map_cons, List.map_nil]); first | done | rfl | (simp only [List.length_drop, List.length_take]; rfl)) ?_
       with_reducible refine (spec_Has.calls k 0 _ _ (rd_L5 l0_0 0) a1_5 t190 _ ?side1 ?side2 A12.out).mono ?_
       (case side1 => repeat (first | exact (Kd.C_below HR189_0.out HB.out) | (with_reducible refine Kd.C_alloc ?_ _) | (with_reducible refine Kd.C_drewN ?_ _) | (with_reducible refine Kd.C_drew ?_)))
       (case side2 => exact HC189_0.out)
       rintro e w19 ⟨rfl, hb⟩
       refine ⟨_, rfl, ?_⟩
       have n0_ := Aside0.mk (blk_below (g := gb182) (o := .cells #[.slice (some ad185) l0_0.length c0_0, .bool a0_1] 30 (0, 0)) (by (with_reducible repeat (first | refine blk_drewN ?_ _ | refine blk_drew ?_ | refine blk_alloc ?_ _)); exact BK182.out) hb)
       have n1_ := Aside0.mk (blk_below (g := gb183) (o := .cells #[.int .i64 a1_0, .int .i64 a1_1, .int .i64 a1_2, .int .i64 a1_3, .int .i64 a1_4, .int .i64 a1_5] 43 (0, 0)) (by (with_reducible repeat (first | refine blk_drewN ?_ _ | refine blk_drew ?_ | refine blk_alloc ?_ _)); exact BK183.out) hb)
       have n2_ := Aside0.mk (below_step (by repeat (first | (with_reducible first | exact HB.out | apply below_alloc | apply pw_below_drewN | apply below_drew1 | refine below_set ?_ GE182.out | refine below_set ?_ GE183.out) | exact HB.out)) hb)
       clear BK182
       clear BK183
       clear HB
       have BK182 := n0_
       have BK183 := n1_
       have HB := n2_
       clear n0_ n1_ n2_
       (try clear hb)
       (try clear hb2)
       (try clear hk)
       (try clear hi)
       refine hK.out _ _ ⟨(blk_cell BK182.out 0).trans rfl, (blk_cell BK182.out 1).trans rfl, (blk_cell BK183.out 0).trans rfl, (blk_cell BK183.out 1).trans rfl, (blk_cell BK183.out 2).trans rfl, (blk_cell BK183.out 3).trans rfl, (blk_cell BK183.out 4).trans rfl, (blk_cell BK183.out 5).trans rfl, ((HB.out.cell (World.block_lt_of_cell? w _ hw185_0)).trans hw185_0), ((HB.out.cell (World.block_lt_of_cell? w _ hw187_0)).trans hw187_0), ((HB.out.cell (World.block_lt_of_cell? w _ hw189_0)).trans hw189_0)⟩ (fun hHeld => ?_)
       clear hK K
       refine norm_ (a' := ?_) ?_ ?_
       rotate_left
       ·show Act.put _ (some 33) _ = _
        simp only [Act.put, List.setIfInBounds_toArray, List.set_cons_zero, List.set_cons_succ, i64_w, i32_w]
        rfl
       refine pure_ (i := 29) (N := some 34) (v := ?_) (a' := ?_) #[true, true, true, true, true, true, true, true, true, true, true, true, true, true, true, true, true, true, true, true, true, true, true, true, true, true, true, true, true, true, false] rfl rfl (any_of HT_.out (by kernel_rfl)) (fun _ _ _ h => h) (Or.inl ⟨by rfl, ?_⟩) ?_ ?_
       rotate_left
       ·intro w'
        go_simp
        with_reducible rfl
       rotate_left
       ·simp only [Act.put, List.setIfInBounds_toArray, List.set_cons_zero, List.set_cons_succ, i64_w, i32_w]
        rfl
       refine pure_ (i := 30) (N := some 4) (v := ?_) (a' := ?_) #[true, true, true, true, true, true, true, true, true, true, true, true, true, true, true, true, true, true, true, true, true, true, true, true, true, true, true, true, true, true, true] rfl rfl (any_of HT_.out (by kernel_rfl)) (fun _ _ _ h => h) (Or.inl ⟨by rfl, ?_⟩) ?_ ?_
       rotate_left
       ·intro w'
        go_simp
        with_reducible rfl
       rotate_left
       ·simp only [Act.put, List.setIfInBounds_toArray, List.set_cons_zero, List.set_cons_succ, i64_w, i32_w]
        rfl
       refine done_ (done_of HT_.out (by kernel_rfl)) ?_
       try go_wp2
       go_ret
       exact ⟨by first | rfl | (simp [errW_none, errW_some] <;> rfl) | (simp [*, errW_none, errW_some] <;> rfl), by repeat (first | (with_reducible first | exact HB.out | apply below_alloc | apply pw_below_drewN | apply below_drew1 | refine below_set ?_ GE182.out | refine below_set ?_ GE183.out) | exact HB.out)⟩
      ·rw [if_neg c11] at H
       exact absurd H (by simp)
     ·replace c10 := Bool.eq_false_iff.mpr c10
      subst c10
      have H1 : (some false) = some r := by rw [if_neg (show ¬ (false = true) by decide)] at H; exact H
      clear H
      have H := H1
      clear H1
      obtain rfl := Option.some.inj H
      go_enter Tryz.func18, Tryz.ntmps18
      try go_wp2_with (first | ((with_reducible refine gate_dst (N := 2) rfl ?_); refine box_event ?hg (N := 2) ?hd (cs := #[.slice A0_0 l0_0.length c0_0, .bool a0_1]) (t := 30) ?hr ?_; (case hd => rfl); (case hg => rfl); (case hr => first | (go_simp; done) | (go_simp; rfl)); intro gb182 hg w20 hbox hb; have n0_ := Aside0.mk (below_step (by repeat (first | (with_reducible first | exact HB.out | apply below_alloc | apply pw_below_drewN | apply below_drew1) | exact HB.out)) hb); have n1_ := Aside0.mk (hbox); have n2_ := Aside0.mk ((by rw [hg]; exact (below_size (by repeat (first | (with_reducible first | exact HB.out | apply below_alloc | apply pw_below_drewN | apply below_drew1) | exact HB.out))) : w.heap.size ≤ gb182)); have n3_ := Aside0.mk ((by rw [hg]; exact (below_size (by repeat (first | (with_reducible first | exact HB.out | apply below_alloc | apply pw_below_drewN | apply below_drew1) | exact HB.out))) : w.heap.size ≤ gb182)); clear HB; have HB := n0_; have BK182 := n1_; have GW182 := n2_; have GE182 := n3_; clear n0_ n1_ n2_ n3_; clear hb hbox hg) | ((with_reducible refine gate_dst (N := 3) rfl ?_); refine box_event ?hg (N := 3) ?hd (cs := #[.int .i64 a1_0, .int .i64 a1_1, .int .i64 a1_2, .int .i64 a1_3, .int .i64 a1_4, .int .i64 a1_5]) (t := 43) ?hr ?_; (case hd => rfl); (case hg => rfl); (case hr => first | (go_simp; done) | (go_simp; rfl)); intro gb183 hg w21 hbox hb; have n0_ := Aside0.mk (blk_below (g := gb182) (o := .cells #[.slice A0_0 l0_0.length c0_0, .bool a0_1] 30 (0, 0)) (by (with_reducible repeat (first | refine blk_drewN ?_ _ | refine blk_drew ?_ | refine blk_alloc ?_ _)); exact BK182.out) hb); have n1_ := Aside0.mk (below_step (by repeat (first | (with_reducible first | exact HB.out | apply below_alloc | apply pw_below_drewN | apply below_drew1 | refine below_set ?_ GE182.out) | exact HB.out)) hb); have n2_ := Aside0.mk (hbox); have n3_ := Aside0.mk ((by rw [hg]; exact (below_size (by repeat (first | (with_reducible first | exact HB.out | apply below_alloc | apply pw_below_drewN | apply below_drew1 | refine below_set ?_ GE182.out) | exact HB.out))) : w.heap.size ≤ gb183)); have n4_ := Aside0.mk ((by rw [hg]; exact (below_size (by repeat (first | (with_reducible first | exact HB.out | apply below_alloc | apply pw_below_drewN | apply below_drew1 | refine below_set ?_ GE182.out) | exact HB.out))) : w.heap.size ≤ gb183)); have n5_ := Aside0.mk ((by rw [hg]; exact Nat.ne_of_lt (blk_lt (g := gb182) (o := .cells #[.slice A0_0 l0_0.length c0_0, .bool a0_1] 30 (0, 0)) (by (with_reducible repeat (first | refine blk_drewN ?_ _ | refine blk_drew ?_ | refine blk_alloc ?_ _)); exact BK182.out)) : gb182 ≠ gb183)); have n6_ := Aside0.mk ((by rw [hg]; exact Nat.ne_of_gt (blk_lt (g := gb182) (o := .cells #[.slice A0_0 l0_0.length c0_0, .bool a0_1] 30 (0, 0)) (by (with_reducible repeat (first | refine blk_drewN ?_ _ | refine blk_drew ?_ | refine blk_alloc ?_ _)); exact BK182.out)) : gb183 ≠ gb182)); clear BK182; clear HB; have BK182 := n0_; have HB := n1_; have BK183 := n2_; have GW183 := n3_; have GE183 := n4_; have NB182_183 := n5_; have NB183_182 := n6_; clear n0_ n1_ n2_ n3_ n4_ n5_ n6_; clear hb hbox hg))
      have n0_ := Aside0.mk (blk_drew BK182.out)
      have n1_ := Aside0.mk (blk_drew BK183.out)
      have n2_ := Aside0.mk (below_drew1 HB.out)
      clear BK182
      clear BK183
      clear HB
      have BK182 := n0_
      have BK183 := n1_
      have HB := n2_
      clear n0_ n1_ n2_
      have p185 : 0 ≤ (2 : Int) := (by omega)
      have q185 : 2 < (l0_0.length : Int) := of_decide_eq_true (by first | (with_reducible assumption) | assumption)
      obtain ⟨ad185, A185_0, c185_0, e185, hx185_0, hl185_0, hi185_0⟩ := at_L5 HR0_0.out 2 p185 q185
      have hw185_0 := hx185_0
      (try rw [show ((2 : Int)).toNat = 2 from rfl] at hw185_0)
      (try rw [show 2 * 1 = 2 from rfl] at hw185_0)
      (try simp only [Nat.reduceMul, Nat.reduceEqDiff, Go.Addr.add, ↓reduceIte] at hw185_0)
      cases e185
      (try simp only [show (2 : Int).toNat = 2 from rfl, Nat.reduceMul, Nat.reduceEqDiff, Go.Addr.add, ↓reduceIte] at hx185_0)
      have qi185 : (2 < l0_0.length) = True := eq_true (by omega)
      (try rw [show ((2 : Int)).toNat = 2 from rfl] at hx185_0)
      replace hx185_0 := (HB.out.cell (World.block_lt_of_cell? w _ hx185_0)).trans hx185_0
      have HR185_0 := Aside0.mk hi185_0
      have HC185_0 := Aside0.mk hl185_0
      clear hi185_0 hl185_0
      replace p185 := eq_true p185
      replace q185 := eq_true q185
      have p187 : 0 ≤ (1 : Int) := (by omega)
      have q187 : 1 < (l0_0.length : Int) := of_decide_eq_true (by first | (with_reducible assumption) | assumption)
      obtain ⟨ad187, A187_0, c187_0, e187, hx187_0, hl187_0, hi187_0⟩ := at_L5 HR0_0.out 1 p187 q187
      have hw187_0 := hx187_0
      (try rw [show ((1 : Int)).toNat = 1 from rfl] at hw187_0)
      (try rw [show 1 * 1 = 1 from rfl] at hw187_0)
      (try simp only [Nat.reduceMul, Nat.reduceEqDiff, Go.Addr.add, ↓reduceIte] at hw187_0)
      obtain rfl : ad185 = ad187 := (by injection e187)
      (try simp only [show (1 : Int).toNat = 1 from rfl, Nat.reduceMul, Nat.reduceEqDiff, Go.Addr.add, ↓reduceIte] at hx187_0)
      have qi187 : (1 < l0_0.length) = True := eq_true (by omega)
      (try rw [show ((1 : Int)).toNat = 1 from rfl] at hx187_0)
      replace hx187_0 := (HB.out.cell (World.block_lt_of_cell? w _ hx187_0)).trans hx187_0
      have HR187_0 := Aside0.mk hi187_0
      have HC187_0 := Aside0.mk hl187_0
      clear hi187_0 hl187_0
      replace p187 := eq_true p187
      replace q187 := eq_true q187
      refine start_ (n := 31) (S := fun w' => w'.cell? ⟨gb182, 0, none⟩ = some (.slice (some ad185) l0_0.length c0_0) ∧ w'.cell? ⟨gb182, 1, none⟩ = some (.bool a0_1) ∧ w'.cell? ⟨gb183, 0, none⟩ = some (.int .i64 a1_0) ∧ w'.cell? ⟨gb183, 1, none⟩ = some (.int .i64 a1_1) ∧ w'.cell? ⟨gb183, 2, none⟩ = some (.int .i64 a1_2) ∧ w'.cell? ⟨gb183, 3, none⟩ = some (.int .i64 a1_3) ∧ w'.cell? ⟨gb183, 4, none⟩ = some (.int .i64 a1_4) ∧ w'.cell? ⟨gb183, 5, none⟩ = some (.int .i64 a1_5) ∧ w'.cell? ⟨ad185.block, ad185.off + 2, none⟩ = some (.slice A185_0 (rd_L5 l0_0 2).length c185_0) ∧ w'.cell? ⟨ad185.block, ad185.off + 1, none⟩ = some (.slice A187_0 (rd_L5 l0_0 1).length c187_0)) (ds := []) #[false, false, false, false, false, false, false, false, false, false, false, false, false, false, false, false, false, false, false, false, false, false, false, false, false, false, false, false, false, false, false] (by kernel_rfl) rfl rfl ⟨(blk_cell BK182.out 0).trans rfl, (blk_cell BK182.out 1).trans rfl, (blk_cell BK183.out 0).trans rfl, (blk_cell BK183.out 1).trans rfl, (blk_cell BK183.out 2).trans rfl, (blk_cell BK183.out 3).trans rfl, (blk_cell BK183.out 4).trans rfl, (blk_cell BK183.out 5).trans rfl, ((HB.out.cell (World.block_lt_of_cell? w _ hw185_0)).trans hw185_0), ((HB.out.cell (World.block_lt_of_cell? w _ hw187_0)).trans hw187_0)⟩ (fun hHeld => ?_); refine with_tabW spec_Fits.tab1 spec_Fits.bits1 (fun HT_ HW_ => ?_)
      generalize w21.drew = w22 at BK182 BK183 HB HR185_0 HR187_0 hx185_0 hx187_0 hHeld ⊢
      refine take_ (i := 0) (N := some 5) (v := ?_) (a' := ?_) #[true, false, false, false, false, false, false, false, false, false, false, false, false, false, false, false, false, false, false, false, false, false, false, false, false, false, false, false, false, false, false] rfl rfl (take_ofW HT_.out HW_.out (by kernel_rfl)) (fun _ _ _ h => h) (Or.inl ⟨by rfl, ?_⟩) hHeld ?_ ?_
      rotate_left
      ·rintro w' ⟨s0, s1, s2, s3, s4, s5, s6, s7, s8, s9⟩
       go_simp
       with_reducible rfl
      rotate_left
      ·simp only [Act.put, List.setIfInBounds_toArray, List.set_cons_zero, List.set_cons_succ, i64_w, i32_w]
       rfl
      refine take_ (i := 1) (N := some 6) (v := ?_) (a' := ?_) #[true, true, false, false, false, false, false, false, false, false, false, false, false, false, false, false, false, false, false, false, false, false, false, false, false, false, false, false, false, false, false] rfl rfl (take_ofW HT_.out HW_.out (by kernel_rfl)) (fun _ _ _ h => h) (Or.inl ⟨by rfl, ?_⟩) hHeld ?_ ?_
      rotate_left
      ·rintro w' ⟨s0, s1, s2, s3, s4, s5, s6, s7, s8, s9⟩
       go_simp
       with_reducible rfl
      rotate_left
      ·simp only [Act.put, List.setIfInBounds_toArray, List.set_cons_zero, List.set_cons_succ, i64_w, i32_w]
       rfl
      refine one_ (i := 2) (N := some 7) #[true, true, true, false, false, false, false, false, false, false, false, false, false, false, false, false, false, false, false, false, false, false, false, false, false, false, false, false, false, false, false] rfl rfl (one_of HT_.out (by kernel_rfl)) (by decide) (fun K hK => ?_)
      refine goes_ Tryz.func35 (by kernel_rfl) rfl #[.agg #[.slice (some ad185) l0_0.length c0_0, .bool a0_1], .agg #[.int .i64 a1_0, .int .i64 a1_1, .int .i64 a1_2, .int .i64 a1_3, .int .i64 a1_4, .int .i64 a1_5]] (by rfl) rfl rfl (by (try simp only [List.map_toArray, List.map_cons, List.map_nil]); first | done | rfl | (simp only [List.length_drop, List.length_take]; rfl)) ?_
      with_reducible refine (spec_DayFits.calls k _ _ l0_0 a0_1 a1_0 a1_1 a1_2 a1_3 a1_4 a1_5 true _ ?side1 ?side2 A3.out).mono ?_
      (case side1 => repeat (first | exact (Kd.C_below HR0_0.out HB.out) | (with_reducible refine Kd.C_alloc ?_ _) | (with_reducible refine Kd.C_drewN ?_ _) | (with_reducible refine Kd.C_drew ?_)))
      (case side2 => exact HC0_0.out)
      rintro e w23 ⟨rfl, hb⟩
      refine ⟨_, rfl, ?_⟩
      have n0_ := Aside0.mk (blk_below (g := gb182) (o := .cells #[.slice (some ad185) l0_0.length c0_0, .bool a0_1] 30 (0, 0)) (by (with_reducible repeat (first | refine blk_drewN ?_ _ | refine blk_drew ?_ | refine blk_alloc ?_ _)); exact BK182.out) hb)
      have n1_ := Aside0.mk (blk_below (g := gb183) (o := .cells #[.int .i64 a1_0, .int .i64 a1_1, .int .i64 a1_2, .int .i64 a1_3, .int .i64 a1_4, .int .i64 a1_5] 43 (0, 0)) (by (with_reducible repeat (first | refine blk_drewN ?_ _ | refine blk_drew ?_ | refine blk_alloc ?_ _)); exact BK183.out) hb)
      have n2_ := Aside0.mk (below_step (by repeat (first | (with_reducible first | exact HB.out | apply below_alloc | apply pw_below_drewN | apply below_drew1 | refine below_set ?_ GE182.out | refine below_set ?_ GE183.out) | exact HB.out)) hb)
      clear BK182
      clear BK183
      clear HB
      have BK182 := n0_
      have BK183 := n1_
      have HB := n2_
      clear n0_ n1_ n2_
      (try clear hb)
      (try clear hb2)
      (try clear hk)
      (try clear hi)
      refine hK.out _ _ ⟨(blk_cell BK182.out 0).trans rfl, (blk_cell BK182.out 1).trans rfl, (blk_cell BK183.out 0).trans rfl, (blk_cell BK183.out 1).trans rfl, (blk_cell BK183.out 2).trans rfl, (blk_cell BK183.out 3).trans rfl, (blk_cell BK183.out 4).trans rfl, (blk_cell BK183.out 5).trans rfl, ((HB.out.cell (World.block_lt_of_cell? w _ hw185_0)).trans hw185_0), ((HB.out.cell (World.block_lt_of_cell? w _ hw187_0)).trans hw187_0)⟩ (fun hHeld => ?_)
      clear hK K
      refine norm_ (a' := ?_) ?_ ?_
      rotate_left
      ·show Act.put _ (some 7) _ = _
       simp only [Act.put, List.setIfInBounds_toArray, List.set_cons_zero, List.set_cons_succ, i64_w, i32_w]
       rfl
      refine pure_ (i := 3) (N := some 8) (v := ?_) (a' := ?_) #[true, true, true, true, false, false, false, false, false, false, false, false, false, false, false, false, false, false, false, false, false, false, false, false, false, false, false, false, false, false, false] rfl rfl (any_of HT_.out (by kernel_rfl)) (fun _ _ _ h => h) (Or.inl ⟨by rfl, ?_⟩) ?_ ?_
      rotate_left
      ·intro w'
       go_simp
       with_reducible rfl
      rotate_left
      ·simp only [Act.put, List.setIfInBounds_toArray, List.set_cons_zero, List.set_cons_succ, i64_w, i32_w]
       rfl
      refine pure_ (i := 4) (N := some 9) (v := ?_) (a' := ?_) #[true, true, true, true, true, false, false, false, false, false, false, false, false, false, false, false, false, false, false, false, false, false, false, false, false, false, false, false, false, false, false] rfl rfl (any_of HT_.out (by kernel_rfl)) (fun _ _ _ h => h) (Or.inl ⟨by rfl, ?_⟩) ?_ ?_
      rotate_left
      ·intro w'
       go_simp
       with_reducible rfl
      rotate_left
      ·simp only [Act.put, List.setIfInBounds_toArray, List.set_cons_zero, List.set_cons_succ, i64_w, i32_w]
       rfl
      refine pure_ (i := 8) (N := some 13) (v := ?_) (a' := ?_) #[true, true, true, true, true, false, false, false, true, false, false, false, false, false, false, false, false, false, false, false, false, false, false, false, false, false, false, false, false, false, false] rfl rfl (any_of HT_.out (by kernel_rfl)) (fun _ _ _ h => h) (Or.inl ⟨by rfl, ?_⟩) ?_ ?_
      rotate_left
      ·intro w'
       go_simp
       with_reducible rfl
      rotate_left
      ·simp only [Act.put, List.setIfInBounds_toArray, List.set_cons_zero, List.set_cons_succ, i64_w, i32_w]
       rfl
      refine take_ (i := 5) (N := some 10) (v := ?_) (a' := ?_) #[true, true, true, true, true, true, false, false, true, false, false, false, false, false, false, false, false, false, false, false, false, false, false, false, false, false, false, false, false, false, false] rfl rfl (take_ofW HT_.out HW_.out (by kernel_rfl)) (fun _ _ _ h => h) (Or.inl ⟨by rfl, ?_⟩) hHeld ?_ ?_
      rotate_left
      ·rintro w' ⟨s0, s1, s2, s3, s4, s5, s6, s7, s8, s9⟩
       go_simp
       with_reducible rfl
      rotate_left
      ·simp only [Act.put, List.setIfInBounds_toArray, List.set_cons_zero, List.set_cons_succ, i64_w, i32_w]
       rfl
      refine pure_ (i := 6) (N := some 11) (v := ?_) (a' := ?_) #[true, true, true, true, true, true, true, false, true, false, false, false, false, false, false, false, false, false, false, false, false, false, false, false, false, false, false, false, false, false, false] rfl rfl (any_of HT_.out (by kernel_rfl)) (fun _ _ _ h => h) (Or.inl ⟨by rfl, ?_⟩) ?_ ?_
      rotate_left
      ·intro w'
       go_simp
       with_reducible rfl
      rotate_left
      ·simp only [Act.put, List.setIfInBounds_toArray, List.set_cons_zero, List.set_cons_succ, i64_w, i32_w]
       rfl
      refine take_ (i := 7) (N := some 12) (v := ?_) (a' := ?_) #[true, true, true, true, true, true, true, true, true, false, false, false, false, false, false, false, false, false, false, false, false, false, false, false, false, false, false, false, false, false, false] rfl rfl (take_ofW HT_.out HW_.out (by kernel_rfl)) (fun _ _ _ h => h) (Or.inl ⟨by rfl, ?_⟩) hHeld ?_ ?_
      rotate_left
      ·rintro w' ⟨s0, s1, s2, s3, s4, s5, s6, s7, s8, s9⟩
       go_simp
       with_reducible rfl
      rotate_left
      ·simp only [Act.put, List.setIfInBounds_toArray, List.set_cons_zero, List.set_cons_succ, i64_w, i32_w]
       rfl
      refine take_ (i := 9) (N := some 14) (v := ?_) (a' := ?_) #[true, true, true, true, true, true, true, true, true, true, false, false, false, false, false, false, false, false, false, false, false, false, false, false, false, false, false, false, false, false, false] rfl rfl (take_ofW HT_.out HW_.out (by kernel_rfl)) (fun _ _ _ h => h) (Or.inl ⟨by rfl, ?_⟩) hHeld ?_ ?_
      rotate_left
      ·rintro w' ⟨s0, s1, s2, s3, s4, s5, s6, s7, s8, s9⟩
       go_simp
       with_reducible rfl
      rotate_left
      ·simp only [Act.put, List.setIfInBounds_toArray, List.set_cons_zero, List.set_cons_succ, i64_w, i32_w]
       rfl
      refine one_ (i := 10) (N := some 15) #[true, true, true, true, true, true, true, true, true, true, true, false, false, false, false, false, false, false, false, false, false, false, false, false, false, false, false, false, false, false, false] rfl rfl (one_of HT_.out (by kernel_rfl)) (by decide) (fun K hK => ?_)
      refine goes_ Tryz.func36 (by kernel_rfl) rfl #[.int .i64 2, .slice A185_0 (rd_L5 l0_0 2).length c185_0, .int .i64 a1_3] (by rfl) rfl rfl (by (try simp only [List.map_toArray, List.map_cons, List.map_nil]); first | done | rfl | (simp only [List.length_drop, List.length_take]; rfl)) ?_
      with_reducible refine (spec_Has.calls k 2 _ _ (rd_L5 l0_0 2) a1_3 true _ ?side1 ?side2 A6.out).mono ?_
      (case side1 => repeat (first | exact (Kd.C_below HR185_0.out HB.out) | (with_reducible refine Kd.C_alloc ?_ _) | (with_reducible refine Kd.C_drewN ?_ _) | (with_reducible refine Kd.C_drew ?_)))
      (case side2 => exact HC185_0.out)
      rintro e w24 ⟨rfl, hb⟩
      refine ⟨_, rfl, ?_⟩
      have n0_ := Aside0.mk (blk_below (g := gb182) (o := .cells #[.slice (some ad185) l0_0.length c0_0, .bool a0_1] 30 (0, 0)) (by (with_reducible repeat (first | refine blk_drewN ?_ _ | refine blk_drew ?_ | refine blk_alloc ?_ _)); exact BK182.out) hb)
      have n1_ := Aside0.mk (blk_below (g := gb183) (o := .cells #[.int .i64 a1_0, .int .i64 a1_1, .int .i64 a1_2, .int .i64 a1_3, .int .i64 a1_4, .int .i64 a1_5] 43 (0, 0)) (by (with_reducible repeat (first | refine blk_drewN ?_ _ | refine blk_drew ?_ | refine blk_alloc ?_ _)); exact BK183.out) hb)
      have n2_ := Aside0.mk (below_step (by repeat (first | (with_reducible first | exact HB.out | apply below_alloc | apply pw_below_drewN | apply below_drew1 | refine below_set ?_ GE182.out | refine below_set ?_ GE183.out) | exact HB.out)) hb)
      clear BK182
      clear BK183
      clear HB
      have BK182 := n0_
      have BK183 := n1_
      have HB := n2_
      clear n0_ n1_ n2_
      (try clear hb)
      (try clear hb2)
      (try clear hk)
      (try clear hi)
      refine hK.out _ _ ⟨(blk_cell BK182.out 0).trans rfl, (blk_cell BK182.out 1).trans rfl, (blk_cell BK183.out 0).trans rfl, (blk_cell BK183.out 1).trans rfl, (blk_cell BK183.out 2).trans rfl, (blk_cell BK183.out 3).trans rfl, (blk_cell BK183.out 4).trans rfl, (blk_cell BK183.out 5).trans rfl, ((HB.out.cell (World.block_lt_of_cell? w _ hw185_0)).trans hw185_0), ((HB.out.cell (World.block_lt_of_cell? w _ hw187_0)).trans hw187_0)⟩ (fun hHeld => ?_)
      clear hK K
      refine norm_ (a' := ?_) ?_ ?_
      rotate_left
      ·show Act.put _ (some 15) _ = _
       simp only [Act.put, List.setIfInBounds_toArray, List.set_cons_zero, List.set_cons_succ, i64_w, i32_w]
       rfl
      refine pure_ (i := 11) (N := some 16) (v := ?_) (a' := ?_) #[true, true, true, true, true, true, true, true, true, true, true, true, false, false, false, false, false, false, false, false, false, false, false, false, false, false, false, false, false, false, false] rfl rfl (any_of HT_.out (by kernel_rfl)) (fun _ _ _ h => h) (Or.inl ⟨by rfl, ?_⟩) ?_ ?_
      rotate_left
      ·intro w'
       go_simp
       with_reducible rfl
      rotate_left
      ·simp only [Act.put, List.setIfInBounds_toArray, List.set_cons_zero, List.set_cons_succ, i64_w, i32_w]
       rfl
      refine pure_ (i := 12) (N := some 17) (v := ?_) (a' := ?_) #[true, true, true, true, true, true, true, true, true, true, true, true, true, false, false, false, false, false, false, false, false, false, false, false, false, false, false, false, false, false, false] rfl rfl (any_of HT_.out (by kernel_rfl)) (fun _ _ _ h => h) (Or.inl ⟨by rfl, ?_⟩) ?_ ?_
      rotate_left
      ·intro w'
       go_simp
       with_reducible rfl
      rotate_left
      ·simp only [Act.put, List.setIfInBounds_toArray, List.set_cons_zero, List.set_cons_succ, i64_w, i32_w]
       rfl
      refine pure_ (i := 13) (N := some 18) (v := ?_) (a' := ?_) #[true, true, true, true, true, true, true, true, true, true, true, true, true, true, false, false, false, false, false, false, false, false, false, false, false, false, false, false, false, false, false] rfl rfl (any_of HT_.out (by kernel_rfl)) (fun _ _ _ h => h) (Or.inl ⟨by rfl, ?_⟩) ?_ ?_
      rotate_left
      ·intro w'
       go_simp
       with_reducible rfl
      rotate_left
      ·simp only [Act.put, List.setIfInBounds_toArray, List.set_cons_zero, List.set_cons_succ, i64_w, i32_w]
       rfl
      refine pure_ (i := 17) (N := some 22) (v := ?_) (a' := ?_) #[true, true, true, true, true, true, true, true, true, true, true, true, true, true, false, false, false, true, false, false, false, false, false, false, false, false, false, false, false, false, false] rfl rfl (any_of HT_.out (by kernel_rfl)) (fun _ _ _ h => h) (Or.inl ⟨by rfl, ?_⟩) ?_ ?_
      rotate_left
      ·intro w'
       go_simp
       with_reducible rfl
      rotate_left
      ·simp only [Act.put, List.setIfInBounds_toArray, List.set_cons_zero, List.set_cons_succ, i64_w, i32_w]
       rfl
      refine take_ (i := 14) (N := some 19) (v := ?_) (a' := ?_) #[true, true, true, true, true, true, true, true, true, true, true, true, true, true, true, false, false, true, false, false, false, false, false, false, false, false, false, false, false, false, false] rfl rfl (take_ofW HT_.out HW_.out (by kernel_rfl)) (fun _ _ _ h => h) (Or.inl ⟨by rfl, ?_⟩) hHeld ?_ ?_
      rotate_left
      ·rintro w' ⟨s0, s1, s2, s3, s4, s5, s6, s7, s8, s9⟩
       go_simp
       with_reducible rfl
      rotate_left
      ·simp only [Act.put, List.setIfInBounds_toArray, List.set_cons_zero, List.set_cons_succ, i64_w, i32_w]
       rfl
      refine pure_ (i := 15) (N := some 20) (v := ?_) (a' := ?_) #[true, true, true, true, true, true, true, true, true, true, true, true, true, true, true, true, false, true, false, false, false, false, false, false, false, false, false, false, false, false, false] rfl rfl (any_of HT_.out (by kernel_rfl)) (fun _ _ _ h => h) (Or.inl ⟨by rfl, ?_⟩) ?_ ?_
      rotate_left
      ·intro w'
       go_simp
       with_reducible rfl
      rotate_left
      ·simp only [Act.put, List.setIfInBounds_toArray, List.set_cons_zero, List.set_cons_succ, i64_w, i32_w]
       rfl
      refine take_ (i := 16) (N := some 21) (v := ?_) (a' := ?_) #[true, true, true, true, true, true, true, true, true, true, true, true, true, true, true, true, true, true, false, false, false, false, false, false, false, false, false, false, false, false, false] rfl rfl (take_ofW HT_.out HW_.out (by kernel_rfl)) (fun _ _ _ h => h) (Or.inl ⟨by rfl, ?_⟩) hHeld ?_ ?_
      rotate_left
      ·rintro w' ⟨s0, s1, s2, s3, s4, s5, s6, s7, s8, s9⟩
       go_simp
       with_reducible rfl
      rotate_left
      ·simp only [Act.put, List.setIfInBounds_toArray, List.set_cons_zero, List.set_cons_succ, i64_w, i32_w]
       rfl
      refine take_ (i := 18) (N := some 23) (v := ?_) (a' := ?_) #[true, true, true, true, true, true, true, true, true, true, true, true, true, true, true, true, true, true, true, false, false, false, false, false, false, false, false, false, false, false, false] rfl rfl (take_ofW HT_.out HW_.out (by kernel_rfl)) (fun _ _ _ h => h) (Or.inl ⟨by rfl, ?_⟩) hHeld ?_ ?_
      rotate_left
      ·rintro w' ⟨s0, s1, s2, s3, s4, s5, s6, s7, s8, s9⟩
       go_simp
       with_reducible rfl
      rotate_left
      ·simp only [Act.put, List.setIfInBounds_toArray, List.set_cons_zero, List.set_cons_succ, i64_w, i32_w]
       rfl
      refine one_ (i := 19) (N := some 24) #[true, true, true, true, true, true, true, true, true, true, true, true, true, true, true, true, true, true, true, true, false, false, false, false, false, false, false, false, false, false, false] rfl rfl (one_of HT_.out (by kernel_rfl)) (by decide) (fun K hK => ?_)
      refine goes_ Tryz.func36 (by kernel_rfl) rfl #[.int .i64 1, .slice A187_0 (rd_L5 l0_0 1).length c187_0, .int .i64 a1_4] (by rfl) rfl rfl (by (try simp only [List.map_toArray, List.map_cons, List.map_nil]); first | done | rfl | (simp only [List.length_drop, List.length_take]; rfl)) ?_
      with_reducible refine (spec_Has.calls k 1 _ _ (rd_L5 l0_0 1) a1_4 false _ ?side1 ?side2 A9.out).mono ?_
      (case side1 => repeat (first | exact (Kd.C_below HR187_0.out HB.out) | (with_reducible refine Kd.C_alloc ?_ _) | (with_reducible refine Kd.C_drewN ?_ _) | (with_reducible refine Kd.C_drew ?_)))
      (case side2 => exact HC187_0.out)
      rintro e w25 ⟨rfl, hb⟩
      refine ⟨_, rfl, ?_⟩
      have n0_ := Aside0.mk (blk_below (g := gb182) (o := .cells #[.slice (some ad185) l0_0.length c0_0, .bool a0_1] 30 (0, 0)) (by (with_reducible repeat (first | refine blk_drewN ?_ _ | refine blk_drew ?_ | refine blk_alloc ?_ _)); exact BK182.out) hb)
      have n1_ := Aside0.mk (blk_below (g := gb183) (o := .cells #[.int .i64 a1_0, .int .i64 a1_1, .int .i64 a1_2, .int .i64 a1_3, .int .i64 a1_4, .int .i64 a1_5] 43 (0, 0)) (by (with_reducible repeat (first | refine blk_drewN ?_ _ | refine blk_drew ?_ | refine blk_alloc ?_ _)); exact BK183.out) hb)
      have n2_ := Aside0.mk (below_step (by repeat (first | (with_reducible first | exact HB.out | apply below_alloc | apply pw_below_drewN | apply below_drew1 | refine below_set ?_ GE182.out | refine below_set ?_ GE183.out) | exact HB.out)) hb)
      clear BK182
      clear BK183
      clear HB
      have BK182 := n0_
      have BK183 := n1_
      have HB := n2_
      clear n0_ n1_ n2_
      (try clear hb)
      (try clear hb2)
      (try clear hk)
      (try clear hi)
      refine hK.out _ _ ⟨(blk_cell BK182.out 0).trans rfl, (blk_cell BK182.out 1).trans rfl, (blk_cell BK183.out 0).trans rfl, (blk_cell BK183.out 1).trans rfl, (blk_cell BK183.out 2).trans rfl, (blk_cell BK183.out 3).trans rfl, (blk_cell BK183.out 4).trans rfl, (blk_cell BK183.out 5).trans rfl, ((HB.out.cell (World.block_lt_of_cell? w _ hw185_0)).trans hw185_0), ((HB.out.cell (World.block_lt_of_cell? w _ hw187_0)).trans hw187_0)⟩ (fun hHeld => ?_)
      clear hK K
      refine norm_ (a' := ?_) ?_ ?_
      rotate_left
      ·show Act.put _ (some 24) _ = _
       simp only [Act.put, List.setIfInBounds_toArray, List.set_cons_zero, List.set_cons_succ, i64_w, i32_w]
       rfl
      refine pure_ (i := 20) (N := some 25) (v := ?_) (a' := ?_) #[true, true, true, true, true, true, true, true, true, true, true, true, true, true, true, true, true, true, true, true, true, false, false, false, false, false, false, false, false, false, false] rfl rfl (any_of HT_.out (by kernel_rfl)) (fun _ _ _ h => h) (Or.inl ⟨by rfl, ?_⟩) ?_ ?_
      rotate_left
      ·intro w'
       go_simp
       with_reducible rfl
      rotate_left
      ·simp only [Act.put, List.setIfInBounds_toArray, List.set_cons_zero, List.set_cons_succ, i64_w, i32_w]
       rfl
      refine pure_ (i := 21) (N := some 26) (v := ?_) (a' := ?_) #[true, true, true, true, true, true, true, true, true, true, true, true, true, true, true, true, true, true, true, true, true, true, false, false, false, false, false, false, false, false, false] rfl rfl (any_of HT_.out (by kernel_rfl)) (fun _ _ _ h => h) (Or.inl ⟨by rfl, ?_⟩) ?_ ?_
      rotate_left
      ·intro w'
       go_simp
       with_reducible rfl
      rotate_left
      ·simp only [Act.put, List.setIfInBounds_toArray, List.set_cons_zero, List.set_cons_succ, i64_w, i32_w]
       rfl
      refine pure_ (i := 22) (N := some 27) (v := undef) (a' := ?_) #[true, true, true, true, true, true, true, true, true, true, true, true, true, true, true, true, true, true, true, true, true, true, true, false, false, false, false, false, false, false, false] rfl rfl (any_of HT_.out (by kernel_rfl)) (fun _ _ _ h => h) (Or.inr ⟨by rfl, rfl⟩) ?_ ?_
      rotate_left
      ·simp only [Act.put, List.setIfInBounds_toArray, List.set_cons_zero, List.set_cons_succ, i64_w, i32_w]
       rfl
      refine pure_ (i := 23) (N := some 28) (v := undef) (a' := ?_) #[true, true, true, true, true, true, true, true, true, true, true, true, true, true, true, true, true, true, true, true, true, true, true, true, false, false, false, false, false, false, false] rfl rfl (any_of HT_.out (by kernel_rfl)) (fun _ _ _ h => h) (Or.inr ⟨by rfl, rfl⟩) ?_ ?_
      rotate_left
      ·simp only [Act.put, List.setIfInBounds_toArray, List.set_cons_zero, List.set_cons_succ, i64_w, i32_w]
       rfl
      refine pure_ (i := 24) (N := some 29) (v := undef) (a' := ?_) #[true, true, true, true, true, true, true, true, true, true, true, true, true, true, true, true, true, true, true, true, true, true, true, true, true, false, false, false, false, false, false] rfl rfl (any_of HT_.out (by kernel_rfl)) (fun _ _ _ h => h) (Or.inr ⟨by rfl, rfl⟩) ?_ ?_
      rotate_left
      ·simp only [Act.put, List.setIfInBounds_toArray, List.set_cons_zero, List.set_cons_succ, i64_w, i32_w]
       rfl
      refine pure_ (i := 25) (N := some 30) (v := undef) (a' := ?_) #[true, true, true, true, true, true, true, true, true, true, true, true, true, true, true, true, true, true, true, true, true, true, true, true, true, true, false, false, false, false, false] rfl rfl (any_of HT_.out (by kernel_rfl)) (fun _ _ _ h => h) (Or.inr ⟨by rfl, rfl⟩) ?_ ?_
      rotate_left
      ·simp only [Act.put, List.setIfInBounds_toArray, List.set_cons_zero, List.set_cons_succ, i64_w, i32_w]
       rfl
      refine pure_ (i := 26) (N := some 31) (v := undef) (a' := ?_) #[true, true, true, true, true, true, true, true, true, true, true, true, true, true, true, true, true, true, true, true, true, true, true, true, true, true, true, false, false, false, false] rfl rfl (any_of HT_.out (by kernel_rfl)) (fun _ _ _ h => h) (Or.inr ⟨by rfl, rfl⟩) ?_ ?_
      rotate_left
      ·simp only [Act.put, List.setIfInBounds_toArray, List.set_cons_zero, List.set_cons_succ, i64_w, i32_w]
       rfl
      refine pure_ (i := 27) (N := some 32) (v := undef) (a' := ?_) #[true, true, true, true, true, true, true, true, true, true, true, true, true, true, true, true, true, true, true, true, true, true, true, true, true, true, true, true, false, false, false] rfl rfl (any_of HT_.out (by kernel_rfl)) (fun _ _ _ h => h) (Or.inr ⟨by rfl, rfl⟩) ?_ ?_
      rotate_left
      ·simp only [Act.put, List.setIfInBounds_toArray, List.set_cons_zero, List.set_cons_succ, i64_w, i32_w]
       rfl
      refine pure_ (i := 28) (N := some 33) (v := undef) (a' := ?_) #[true, true, true, true, true, true, true, true, true, true, true, true, true, true, true, true, true, true, true, true, true, true, true, true, true, true, true, true, true, false, false] rfl rfl (any_of HT_.out (by kernel_rfl)) (fun _ _ _ h => h) (Or.inr ⟨by rfl, rfl⟩) ?_ ?_
      rotate_left
      ·simp only [Act.put, List.setIfInBounds_toArray, List.set_cons_zero, List.set_cons_succ, i64_w, i32_w]
       rfl
      refine pure_ (i := 29) (N := some 34) (v := ?_) (a' := ?_) #[true, true, true, true, true, true, true, true, true, true, true, true, true, true, true, true, true, true, true, true, true, true, true, true, true, true, true, true, true, true, false] rfl rfl (any_of HT_.out (by kernel_rfl)) (fun _ _ _ h => h) (Or.inl ⟨by rfl, ?_⟩) ?_ ?_
      rotate_left
      ·intro w'
       go_simp
       with_reducible rfl
      rotate_left
      ·simp only [Act.put, List.setIfInBounds_toArray, List.set_cons_zero, List.set_cons_succ, i64_w, i32_w]
       rfl
      refine pure_ (i := 30) (N := some 4) (v := ?_) (a' := ?_) #[true, true, true, true, true, true, true, true, true, true, true, true, true, true, true, true, true, true, true, true, true, true, true, true, true, true, true, true, true, true, true] rfl rfl (any_of HT_.out (by kernel_rfl)) (fun _ _ _ h => h) (Or.inl ⟨by rfl, ?_⟩) ?_ ?_
      rotate_left
      ·intro w'
       go_simp
       with_reducible rfl
      rotate_left
      ·simp only [Act.put, List.setIfInBounds_toArray, List.set_cons_zero, List.set_cons_succ, i64_w, i32_w]
       rfl
      refine done_ (done_of HT_.out (by kernel_rfl)) ?_
      try go_wp2
      go_ret
      exact ⟨by first | rfl | (simp [errW_none, errW_some] <;> rfl) | (simp [*, errW_none, errW_some] <;> rfl), by repeat (first | (with_reducible first | exact HB.out | apply below_alloc | apply pw_below_drewN | apply below_drew1 | refine below_set ?_ GE182.out | refine below_set ?_ GE183.out) | exact HB.out)⟩
    ·rw [if_neg c8] at H
     exact absurd H (by simp)
   ·replace c7 := Bool.eq_false_iff.mpr c7
    subst c7
    have H1 : (some false) = some r := by rw [if_neg (show ¬ (false = true) by decide)] at H; exact H
    clear H
    have H := H1
    clear H1
    obtain rfl := Option.some.inj H
    go_enter Tryz.func18, Tryz.ntmps18
    try go_wp2_with (first | ((with_reducible refine gate_dst (N := 2) rfl ?_); refine box_event ?hg (N := 2) ?hd (cs := #[.slice A0_0 l0_0.length c0_0, .bool a0_1]) (t := 30) ?hr ?_; (case hd => rfl); (case hg => rfl); (case hr => first | (go_simp; done) | (go_simp; rfl)); intro gb182 hg w26 hbox hb; have n0_ := Aside0.mk (below_step (by repeat (first | (with_reducible first | exact HB.out | apply below_alloc | apply pw_below_drewN | apply below_drew1) | exact HB.out)) hb); have n1_ := Aside0.mk (hbox); have n2_ := Aside0.mk ((by rw [hg]; exact (below_size (by repeat (first | (with_reducible first | exact HB.out | apply below_alloc | apply pw_below_drewN | apply below_drew1) | exact HB.out))) : w.heap.size ≤ gb182)); have n3_ := Aside0.mk ((by rw [hg]; exact (below_size (by repeat (first | (with_reducible first | exact HB.out | apply below_alloc | apply pw_below_drewN | apply below_drew1) | exact HB.out))) : w.heap.size ≤ gb182)); clear HB; have HB := n0_; have BK182 := n1_; have GW182 := n2_; have GE182 := n3_; clear n0_ n1_ n2_ n3_; clear hb hbox hg) | ((with_reducible refine gate_dst (N := 3) rfl ?_); refine box_event ?hg (N := 3) ?hd (cs := #[.int .i64 a1_0, .int .i64 a1_1, .int .i64 a1_2, .int .i64 a1_3, .int .i64 a1_4, .int .i64 a1_5]) (t := 43) ?hr ?_; (case hd => rfl); (case hg => rfl); (case hr => first | (go_simp; done) | (go_simp; rfl)); intro gb183 hg w27 hbox hb; have n0_ := Aside0.mk (blk_below (g := gb182) (o := .cells #[.slice A0_0 l0_0.length c0_0, .bool a0_1] 30 (0, 0)) (by (with_reducible repeat (first | refine blk_drewN ?_ _ | refine blk_drew ?_ | refine blk_alloc ?_ _)); exact BK182.out) hb); have n1_ := Aside0.mk (below_step (by repeat (first | (with_reducible first | exact HB.out | apply below_alloc | apply pw_below_drewN | apply below_drew1 | refine below_set ?_ GE182.out) | exact HB.out)) hb); have n2_ := Aside0.mk (hbox); have n3_ := Aside0.mk ((by rw [hg]; exact (below_size (by repeat (first | (with_reducible first | exact HB.out | apply below_alloc | apply pw_below_drewN | apply below_drew1 | refine below_set ?_ GE182.out) | exact HB.out))) : w.heap.size ≤ gb183)); have n4_ := Aside0.mk ((by rw [hg]; exact (below_size (by repeat (first | (with_reducible first | exact HB.out | apply below_alloc | apply pw_below_drewN | apply below_drew1 | refine below_set ?_ GE182.out) | exact HB.out))) : w.heap.size ≤ gb183)); have n5_ := Aside0.mk ((by rw [hg]; exact Nat.ne_of_lt (blk_lt (g := gb182) (o := .cells #[.slice A0_0 l0_0.length c0_0, .bool a0_1] 30 (0, 0)) (by (with_reducible repeat (first | refine blk_drewN ?_ _ | refine blk_drew ?_ | refine blk_alloc ?_ _)); exact BK182.out)) : gb182 ≠ gb183)); have n6_ := Aside0.mk ((by rw [hg]; exact Nat.ne_of_gt (blk_lt (g := gb182) (o := .cells #[.slice A0_0 l0_0.length c0_0, .bool a0_1] 30 (0, 0)) (by (with_reducible repeat (first | refine blk_drewN ?_ _ | refine blk_drew ?_ | refine blk_alloc ?_ _)); exact BK182.out)) : gb183 ≠ gb182)); clear BK182; clear HB; have BK182 := n0_; have HB := n1_; have BK183 := n2_; have GW183 := n3_; have GE183 := n4_; have NB182_183 := n5_; have NB183_182 := n6_; clear n0_ n1_ n2_ n3_ n4_ n5_ n6_; clear hb hbox hg))
    have n0_ := Aside0.mk (blk_drew BK182.out)
    have n1_ := Aside0.mk (blk_drew BK183.out)
    have n2_ := Aside0.mk (below_drew1 HB.out)
    clear BK182
    clear BK183
    clear HB
    have BK182 := n0_
    have BK183 := n1_
    have HB := n2_
    clear n0_ n1_ n2_
    have p185 : 0 ≤ (2 : Int) := (by omega)
    have q185 : 2 < (l0_0.length : Int) := of_decide_eq_true (by first | (with_reducible assumption) | assumption)
    obtain ⟨ad185, A185_0, c185_0, e185, hx185_0, hl185_0, hi185_0⟩ := at_L5 HR0_0.out 2 p185 q185
    have hw185_0 := hx185_0
    (try rw [show ((2 : Int)).toNat = 2 from rfl] at hw185_0)
    (try rw [show 2 * 1 = 2 from rfl] at hw185_0)
    (try simp only [Nat.reduceMul, Nat.reduceEqDiff, Go.Addr.add, ↓reduceIte] at hw185_0)
    cases e185
    (try simp only [show (2 : Int).toNat = 2 from rfl, Nat.reduceMul, Nat.reduceEqDiff, Go.Addr.add, ↓reduceIte] at hx185_0)
    have qi185 : (2 < l0_0.length) = True := eq_true (by omega)
    (try rw [show ((2 : Int)).toNat = 2 from rfl] at hx185_0)
    replace hx185_0 := (HB.out.cell (World.block_lt_of_cell? w _ hx185_0)).trans hx185_0
    have HR185_0 := Aside0.mk hi185_0
    have HC185_0 := Aside0.mk hl185_0
    clear hi185_0 hl185_0
    replace p185 := eq_true p185
    replace q185 := eq_true q185
    refine start_ (n := 31) (S := fun w' => w'.cell? ⟨gb182, 0, none⟩ = some (.slice (some ad185) l0_0.length c0_0) ∧ w'.cell? ⟨gb182, 1, none⟩ = some (.bool a0_1) ∧ w'.cell? ⟨gb183, 0, none⟩ = some (.int .i64 a1_0) ∧ w'.cell? ⟨gb183, 1, none⟩ = some (.int .i64 a1_1) ∧ w'.cell? ⟨gb183, 2, none⟩ = some (.int .i64 a1_2) ∧ w'.cell? ⟨gb183, 3, none⟩ = some (.int .i64 a1_3) ∧ w'.cell? ⟨gb183, 4, none⟩ = some (.int .i64 a1_4) ∧ w'.cell? ⟨gb183, 5, none⟩ = some (.int .i64 a1_5) ∧ w'.cell? ⟨ad185.block, ad185.off + 2, none⟩ = some (.slice A185_0 (rd_L5 l0_0 2).length c185_0)) (ds := []) #[false, false, false, false, false, false, false, false, false, false, false, false, false, false, false, false, false, false, false, false, false, false, false, false, false, false, false, false, false, false, false] (by kernel_rfl) rfl rfl ⟨(blk_cell BK182.out 0).trans rfl, (blk_cell BK182.out 1).trans rfl, (blk_cell BK183.out 0).trans rfl, (blk_cell BK183.out 1).trans rfl, (blk_cell BK183.out 2).trans rfl, (blk_cell BK183.out 3).trans rfl, (blk_cell BK183.out 4).trans rfl, (blk_cell BK183.out 5).trans rfl, ((HB.out.cell (World.block_lt_of_cell? w _ hw185_0)).trans hw185_0)⟩ (fun hHeld => ?_); refine with_tabW spec_Fits.tab1 spec_Fits.bits1 (fun HT_ HW_ => ?_)
    generalize w27.drew = w28 at BK182 BK183 HB HR185_0 hx185_0 hHeld ⊢
    refine take_ (i := 0) (N := some 5) (v := ?_) (a' := ?_) #[true, false, false, false, false, false, false, false, false, false, false, false, false, false, false, false, false, false, false, false, false, false, false, false, false, false, false, false, false, false, false] rfl rfl (take_ofW HT_.out HW_.out (by kernel_rfl)) (fun _ _ _ h => h) (Or.inl ⟨by rfl, ?_⟩) hHeld ?_ ?_
    rotate_left
    ·rintro w' ⟨s0, s1, s2, s3, s4, s5, s6, s7, s8⟩
     go_simp
     with_reducible rfl
    rotate_left
    ·simp only [Act.put, List.setIfInBounds_toArray, List.set_cons_zero, List.set_cons_succ, i64_w, i32_w]
     rfl
    refine take_ (i := 1) (N := some 6) (v := ?_) (a' := ?_) #[true, true, false, false, false, false, false, false, false, false, false, false, false, false, false, false, false, false, false, false, false, false, false, false, false, false, false, false, false, false, false] rfl rfl (take_ofW HT_.out HW_.out (by kernel_rfl)) (fun _ _ _ h => h) (Or.inl ⟨by rfl, ?_⟩) hHeld ?_ ?_
    rotate_left
    ·rintro w' ⟨s0, s1, s2, s3, s4, s5, s6, s7, s8⟩
     go_simp
     with_reducible rfl
    rotate_left
    ·simp only [Act.put, List.setIfInBounds_toArray, List.set_cons_zero, List.set_cons_succ, i64_w, i32_w]
     rfl
    refine one_ (i := 2) (N := some 7) #[true, true, true, false, false, false, false, false, false, false, false, false, false, false, false, false, false, false, false, false, false, false, false, false, false, false, false, false, false, false, false] rfl rfl (one_of HT_.out (by kernel_rfl)) (by decide) (fun K hK => ?_)
    refine goes_ Tryz.func35 (by kernel_rfl) rfl #[.agg #[.slice (some ad185) l0_0.length c0_0, .bool a0_1], .agg #[.int .i64 a1_0, .int .i64 a1_1, .int .i64 a1_2, .int .i64 a1_3, .int .i64 a1_4, .int .i64 a1_5]] (by rfl) rfl rfl (by (try simp only [List.map_toArray, List.map_cons, List.map_nil]); first | done | rfl | (simp only [List.length_drop, List.length_take]; rfl)) ?_
    with_reducible refine (spec_DayFits.calls k _ _ l0_0 a0_1 a1_0 a1_1 a1_2 a1_3 a1_4 a1_5 true _ ?side1 ?side2 A3.out).mono ?_
    (case side1 => repeat (first | exact (Kd.C_below HR0_0.out HB.out) | (with_reducible refine Kd.C_alloc ?_ _) | (with_reducible refine Kd.C_drewN ?_ _) | (with_reducible refine Kd.C_drew ?_)))
    (case side2 => exact HC0_0.out)
    rintro e w29 ⟨rfl, hb⟩
    refine ⟨_, rfl, ?_⟩
    have n0_ := Aside0.mk (blk_below (g := gb182) (o := .cells #[.slice (some ad185) l0_0.length c0_0, .bool a0_1] 30 (0, 0)) (by (with_reducible repeat (first | refine blk_drewN ?_ _ | refine blk_drew ?_ | refine blk_alloc ?_ _)); exact BK182.out) hb)
    have n1_ := Aside0.mk (blk_below (g := gb183) (o := .cells #[.int .i64 a1_0, .int .i64 a1_1, .int .i64 a1_2, .int .i64 a1_3, .int .i64 a1_4, .int .i64 a1_5] 43 (0, 0)) (by (with_reducible repeat (first | refine blk_drewN ?_ _ | refine blk_drew ?_ | refine blk_alloc ?_ _)); exact BK183.out) hb)
    have n2_ := Aside0.mk (below_step (by repeat (first | (with_reducible first | exact HB.out | apply below_alloc | apply pw_below_drewN | apply below_drew1 | refine below_set ?_ GE182.out | refine below_set ?_ GE183.out) | exact HB.out)) hb)
    clear BK182
    clear BK183
    clear HB
    have BK182 := n0_
    have BK183 := n1_
    have HB := n2_
    clear n0_ n1_ n2_
    (try clear hb)
    (try clear hb2)
    (try clear hk)
    (try clear hi)
    refine hK.out _ _ ⟨(blk_cell BK182.out 0).trans rfl, (blk_cell BK182.out 1).trans rfl, (blk_cell BK183.out 0).trans rfl, (blk_cell BK183.out 1).trans rfl, (blk_cell BK183.out 2).trans rfl, (blk_cell BK183.out 3).trans rfl, (blk_cell BK183.out 4).trans rfl, (blk_cell BK183.out 5).trans rfl, ((HB.out.cell (World.block_lt_of_cell? w _ hw185_0)).trans hw185_0)⟩ (fun hHeld => ?_)
    clear hK K
    refine norm_ (a' := ?_) ?_ ?_
    rotate_left
    ·show Act.put _ (some 7) _ = _
     simp only [Act.put, List.setIfInBounds_toArray, List.set_cons_zero, List.set_cons_succ, i64_w, i32_w]
     rfl
    refine pure_ (i := 3) (N := some 8) (v := ?_) (a' := ?_) #[true, true, true, true, false, false, false, false, false, false, false, false, false, false, false, false, false, false, false, false, false, false, false, false, false, false, false, false, false, false, false] rfl rfl (any_of HT_.out (by kernel_rfl)) (fun _ _ _ h => h) (Or.inl ⟨by rfl, ?_⟩) ?_ ?_
    rotate_left
    ·intro w'
     go_simp
     with_reducible rfl
    rotate_left
    ·simp only [Act.put, List.setIfInBounds_toArray, List.set_cons_zero, List.set_cons_succ, i64_w, i32_w]
     rfl
    refine pure_ (i := 4) (N := some 9) (v := ?_) (a' := ?_) #[true, true, true, true, true, false, false, false, false, false, false, false, false, false, false, false, false, false, false, false, false, false, false, false, false, false, false, false, false, false, false] rfl rfl (any_of HT_.out (by kernel_rfl)) (fun _ _ _ h => h) (Or.inl ⟨by rfl, ?_⟩) ?_ ?_
    rotate_left
    ·intro w'
     go_simp
     with_reducible rfl
    rotate_left
    ·simp only [Act.put, List.setIfInBounds_toArray, List.set_cons_zero, List.set_cons_succ, i64_w, i32_w]
     rfl
    refine pure_ (i := 8) (N := some 13) (v := ?_) (a' := ?_) #[true, true, true, true, true, false, false, false, true, false, false, false, false, false, false, false, false, false, false, false, false, false, false, false, false, false, false, false, false, false, false] rfl rfl (any_of HT_.out (by kernel_rfl)) (fun _ _ _ h => h) (Or.inl ⟨by rfl, ?_⟩) ?_ ?_
    rotate_left
    ·intro w'
     go_simp
     with_reducible rfl
    rotate_left
    ·simp only [Act.put, List.setIfInBounds_toArray, List.set_cons_zero, List.set_cons_succ, i64_w, i32_w]
     rfl
    refine take_ (i := 5) (N := some 10) (v := ?_) (a' := ?_) #[true, true, true, true, true, true, false, false, true, false, false, false, false, false, false, false, false, false, false, false, false, false, false, false, false, false, false, false, false, false, false] rfl rfl (take_ofW HT_.out HW_.out (by kernel_rfl)) (fun _ _ _ h => h) (Or.inl ⟨by rfl, ?_⟩) hHeld ?_ ?_
    rotate_left
    ·rintro w' ⟨s0, s1, s2, s3, s4, s5, s6, s7, s8⟩
     go_simp
     with_reducible rfl
    rotate_left
    ·simp only [Act.put, List.setIfInBounds_toArray, List.set_cons_zero, List.set_cons_succ, i64_w, i32_w]
     rfl
    refine pure_ (i := 6) (N := some 11) (v := ?_) (a' := ?_) #[true, true, true, true, true, true, true, false, true, false, false, false, false, false, false, false, false, false, false, false, false, false, false, false, false, false, false, false, false, false, false] rfl rfl (any_of HT_.out (by kernel_rfl)) (fun _ _ _ h => h) (Or.inl ⟨by rfl, ?_⟩) ?_ ?_
    rotate_left
    ·intro w'
     go_simp
     with_reducible rfl
    rotate_left
    ·simp only [Act.put, List.setIfInBounds_toArray, List.set_cons_zero, List.set_cons_succ, i64_w, i32_w]
     rfl
    refine take_ (i := 7) (N := some 12) (v := ?_) (a' := ?_) #[true, true, true, true, true, true, true, true, true, false, false, false, false, false, false, false, false, false, false, false, false, false, false, false, false, false, false, false, false, false, false] rfl rfl (take_ofW HT_.out HW_.out (by kernel_rfl)) (fun _ _ _ h => h) (Or.inl ⟨by rfl, ?_⟩) hHeld ?_ ?_
    rotate_left
    ·rintro w' ⟨s0, s1, s2, s3, s4, s5, s6, s7, s8⟩
     go_simp
     with_reducible rfl
    rotate_left
    ·simp only [Act.put, List.setIfInBounds_toArray, List.set_cons_zero, List.set_cons_succ, i64_w, i32_w]
     rfl
    refine take_ (i := 9) (N := some 14) (v := ?_) (a' := ?_) #[true, true, true, true, true, true, true, true, true, true, false, false, false, false, false, false, false, false, false, false, false, false, false, false, false, false, false, false, false, false, false] rfl rfl (take_ofW HT_.out HW_.out (by kernel_rfl)) (fun _ _ _ h => h) (Or.inl ⟨by rfl, ?_⟩) hHeld ?_ ?_
    rotate_left
    ·rintro w' ⟨s0, s1, s2, s3, s4, s5, s6, s7, s8⟩
     go_simp
     with_reducible rfl
    rotate_left
    ·simp only [Act.put, List.setIfInBounds_toArray, List.set_cons_zero, List.set_cons_succ, i64_w, i32_w]
     rfl
    refine one_ (i := 10) (N := some 15) #[true, true, true, true, true, true, true, true, true, true, true, false, false, false, false, false, false, false, false, false, false, false, false, false, false, false, false, false, false, false, false] rfl rfl (one_of HT_.out (by kernel_rfl)) (by decide) (fun K hK => ?_)
    refine goes_ Tryz.func36 (by kernel_rfl) rfl #[.int .i64 2, .slice A185_0 (rd_L5 l0_0 2).length c185_0, .int .i64 a1_3] (by rfl) rfl rfl (by (try simp only [List.map_toArray, List.map_cons, List.map_nil]); first | done | rfl | (simp only [List.length_drop, List.length_take]; rfl)) ?_
    with_reducible refine (spec_Has.calls k 2 _ _ (rd_L5 l0_0 2) a1_3 false _ ?side1 ?side2 A6.out).mono ?_
    (case side1 => repeat (first | exact (Kd.C_below HR185_0.out HB.out) | (with_reducible refine Kd.C_alloc ?_ _) | (with_reducible refine Kd.C_drewN ?_ _) | (with_reducible refine Kd.C_drew ?_)))
    (case side2 => exact HC185_0.out)
    rintro e w30 ⟨rfl, hb⟩
    refine ⟨_, rfl, ?_⟩
    have n0_ := Aside0.mk (blk_below (g := gb182) (o := .cells #[.slice (some ad185) l0_0.length c0_0, .bool a0_1] 30 (0, 0)) (by (with_reducible repeat (first | refine blk_drewN ?_ _ | refine blk_drew ?_ | refine blk_alloc ?_ _)); exact BK182.out) hb)
    have n1_ := Aside0.mk (blk_below (g := gb183) (o := .cells #[.int .i64 a1_0, .int .i64 a1_1, .int .i64 a1_2, .int .i64 a1_3, .int .i64 a1_4, .int .i64 a1_5] 43 (0, 0)) (by (with_reducible repeat (first | refine blk_drewN ?_ _ | refine blk_drew ?_ | refine blk_alloc ?_ _)); exact BK183.out) hb)
    have n2_ := Aside0.mk (below_step (by repeat (first | (with_reducible first | exact HB.out | apply below_alloc | apply pw_below_drewN | apply below_drew1 | refine below_set ?_ GE182.out | refine below_set ?_ GE183.out) | exact HB.out)) hb)
    clear BK182
    clear BK183
    clear HB
    have BK182 := n0_
    have BK183 := n1_
    have HB := n2_
    clear n0_ n1_ n2_
    (try clear hb)
    (try clear hb2)
    (try clear hk)
    (try clear hi)
    refine hK.out _ _ ⟨(blk_cell BK182.out 0).trans rfl, (blk_cell BK182.out 1).trans rfl, (blk_cell BK183.out 0).trans rfl, (blk_cell BK183.out 1).trans rfl, (blk_cell BK183.out 2).trans rfl, (blk_cell BK183.out 3).trans rfl, (blk_cell BK183.out 4).trans rfl, (blk_cell BK183.out 5).trans rfl, ((HB.out.cell (World.block_lt_of_cell? w _ hw185_0)).trans hw185_0)⟩ (fun hHeld => ?_)
    clear hK K
    refine norm_ (a' := ?_) ?_ ?_
    rotate_left
    ·show Act.put _ (some 15) _ = _
     simp only [Act.put, List.setIfInBounds_toArray, List.set_cons_zero, List.set_cons_succ, i64_w, i32_w]
     rfl
    refine pure_ (i := 11) (N := some 16) (v := ?_) (a' := ?_) #[true, true, true, true, true, true, true, true, true, true, true, true, false, false, false, false, false, false, false, false, false, false, false, false, false, false, false, false, false, false, false] rfl rfl (any_of HT_.out (by kernel_rfl)) (fun _ _ _ h => h) (Or.inl ⟨by rfl, ?_⟩) ?_ ?_
    rotate_left
    ·intro w'
     go_simp
     with_reducible rfl
    rotate_left
    ·simp only [Act.put, List.setIfInBounds_toArray, List.set_cons_zero, List.set_cons_succ, i64_w, i32_w]
     rfl
    refine pure_ (i := 12) (N := some 17) (v := ?_) (a' := ?_) #[true, true, true, true, true, true, true, true, true, true, true, true, true, false, false, false, false, false, false, false, false, false, false, false, false, false, false, false, false, false, false] rfl rfl (any_of HT_.out (by kernel_rfl)) (fun _ _ _ h => h) (Or.inl ⟨by rfl, ?_⟩) ?_ ?_
    rotate_left
    ·intro w'
     go_simp
     with_reducible rfl
    rotate_left
    ·simp only [Act.put, List.setIfInBounds_toArray, List.set_cons_zero, List.set_cons_succ, i64_w, i32_w]
     rfl
    refine pure_ (i := 13) (N := some 18) (v := undef) (a' := ?_) #[true, true, true, true, true, true, true, true, true, true, true, true, true, true, false, false, false, false, false, false, false, false, false, false, false, false, false, false, false, false, false] rfl rfl (any_of HT_.out (by kernel_rfl)) (fun _ _ _ h => h) (Or.inr ⟨by rfl, rfl⟩) ?_ ?_
    rotate_left
    ·simp only [Act.put, List.setIfInBounds_toArray, List.set_cons_zero, List.set_cons_succ, i64_w, i32_w]
     rfl
    refine pure_ (i := 14) (N := some 19) (v := undef) (a' := ?_) #[true, true, true, true, true, true, true, true, true, true, true, true, true, true, true, false, false, false, false, false, false, false, false, false, false, false, false, false, false, false, false] rfl rfl (any_of HT_.out (by kernel_rfl)) (fun _ _ _ h => h) (Or.inr ⟨by rfl, rfl⟩) ?_ ?_
    rotate_left
    ·simp only [Act.put, List.setIfInBounds_toArray, List.set_cons_zero, List.set_cons_succ, i64_w, i32_w]
     rfl
    refine pure_ (i := 15) (N := some 20) (v := undef) (a' := ?_) #[true, true, true, true, true, true, true, true, true, true, true, true, true, true, true, true, false, false, false, false, false, false, false, false, false, false, false, false, false, false, false] rfl rfl (any_of HT_.out (by kernel_rfl)) (fun _ _ _ h => h) (Or.inr ⟨by rfl, rfl⟩) ?_ ?_
    rotate_left
    ·simp only [Act.put, List.setIfInBounds_toArray, List.set_cons_zero, List.set_cons_succ, i64_w, i32_w]
     rfl
    refine pure_ (i := 16) (N := some 21) (v := undef) (a' := ?_) #[true, true, true, true, true, true, true, true, true, true, true, true, true, true, true, true, true, false, false, false, false, false, false, false, false, false, false, false, false, false, false] rfl rfl (any_of HT_.out (by kernel_rfl)) (fun _ _ _ h => h) (Or.inr ⟨by rfl, rfl⟩) ?_ ?_
    rotate_left
    ·simp only [Act.put, List.setIfInBounds_toArray, List.set_cons_zero, List.set_cons_succ, i64_w, i32_w]
     rfl
    refine pure_ (i := 17) (N := some 22) (v := undef) (a' := ?_) #[true, true, true, true, true, true, true, true, true, true, true, true, true, true, true, true, true, true, false, false, false, false, false, false, false, false, false, false, false, false, false] rfl rfl (any_of HT_.out (by kernel_rfl)) (fun _ _ _ h => h) (Or.inr ⟨by rfl, rfl⟩) ?_ ?_
    rotate_left
    ·simp only [Act.put, List.setIfInBounds_toArray, List.set_cons_zero, List.set_cons_succ, i64_w, i32_w]
     rfl
    refine pure_ (i := 18) (N := some 23) (v := undef) (a' := ?_) #[true, true, true, true, true, true, true, true, true, true, true, true, true, true, true, true, true, true, true, false, false, false, false, false, false, false, false, false, false, false, false] rfl rfl (any_of HT_.out (by kernel_rfl)) (fun _ _ _ h => h) (Or.inr ⟨by rfl, rfl⟩) ?_ ?_
    rotate_left
    ·simp only [Act.put, List.setIfInBounds_toArray, List.set_cons_zero, List.set_cons_succ, i64_w, i32_w]
     rfl
    refine pure_ (i := 19) (N := some 24) (v := undef) (a' := ?_) #[true, true, true, true, true, true, true, true, true, true, true, true, true, true, true, true, true, true, true, true, false, false, false, false, false, false, false, false, false, false, false] rfl rfl (any_of HT_.out (by kernel_rfl)) (fun _ _ _ h => h) (Or.inr ⟨by rfl, rfl⟩) ?_ ?_
    rotate_left
    ·simp only [Act.put, List.setIfInBounds_toArray, List.set_cons_zero, List.set_cons_succ, i64_w, i32_w]
     rfl
    refine pure_ (i := 20) (N := some 25) (v := ?_) (a' := ?_) #[true, true, true, true, true, true, true, true, true, true, true, true, true, true, true, true, true, true, true, true, true, false, false, false, false, false, false, false, false, false, false] rfl rfl (any_of HT_.out (by kernel_rfl)) (fun _ _ _ h => h) (Or.inl ⟨by rfl, ?_⟩) ?_ ?_
    rotate_left
    ·intro w'
     go_simp
     with_reducible rfl
    rotate_left
    ·simp only [Act.put, List.setIfInBounds_toArray, List.set_cons_zero, List.set_cons_succ, i64_w, i32_w]
     rfl
    refine pure_ (i := 21) (N := some 26) (v := ?_) (a' := ?_) #[true, true, true, true, true, true, true, true, true, true, true, true, true, true, true, true, true, true, true, true, true, true, false, false, false, false, false, false, false, false, false] rfl rfl (any_of HT_.out (by kernel_rfl)) (fun _ _ _ h => h) (Or.inl ⟨by rfl, ?_⟩) ?_ ?_
    rotate_left
    ·intro w'
     go_simp
     with_reducible rfl
    rotate_left
    ·simp only [Act.put, List.setIfInBounds_toArray, List.set_cons_zero, List.set_cons_succ, i64_w, i32_w]
     rfl
    refine pure_ (i := 22) (N := some 27) (v := undef) (a' := ?_) #[true, true, true, true, true, true, true, true, true, true, true, true, true, true, true, true, true, true, true, true, true, true, true, false, false, false, false, false, false, false, false] rfl rfl (any_of HT_.out (by kernel_rfl)) (fun _ _ _ h => h) (Or.inr ⟨by rfl, rfl⟩) ?_ ?_
    rotate_left
    ·simp only [Act.put, List.setIfInBounds_toArray, List.set_cons_zero, List.set_cons_succ, i64_w, i32_w]
     rfl
    refine pure_ (i := 23) (N := some 28) (v := undef) (a' := ?_) #[true, true, true, true, true, true, true, true, true, true, true, true, true, true, true, true, true, true, true, true, true, true, true, true, false, false, false, false, false, false, false] rfl rfl (any_of HT_.out (by kernel_rfl)) (fun _ _ _ h => h) (Or.inr ⟨by rfl, rfl⟩) ?_ ?_
    rotate_left
    ·simp only [Act.put, List.setIfInBounds_toArray, List.set_cons_zero, List.set_cons_succ, i64_w, i32_w]
     rfl
    refine pure_ (i := 24) (N := some 29) (v := undef) (a' := ?_) #[true, true, true, true, true, true, true, true, true, true, true, true, true, true, true, true, true, true, true, true, true, true, true, true, true, false, false, false, false, false, false] rfl rfl (any_of HT_.out (by kernel_rfl)) (fun _ _ _ h => h) (Or.inr ⟨by rfl, rfl⟩) ?_ ?_
    rotate_left
    ·simp only [Act.put, List.setIfInBounds_toArray, List.set_cons_zero, List.set_cons_succ, i64_w, i32_w]
     rfl
    refine pure_ (i := 25) (N := some 30) (v := undef) (a' := ?_) #[true, true, true, true, true, true, true, true, true, true, true, true, true, true, true, true, true, true, true, true, true, true, true, true, true, true, false, false, false, false, false] rfl rfl (any_of HT_.out (by kernel_rfl)) (fun _ _ _ h => h) (Or.inr ⟨by rfl, rfl⟩) ?_ ?_
    rotate_left
    ·simp only [Act.put, List.setIfInBounds_toArray, List.set_cons_zero, List.set_cons_succ, i64_w, i32_w]
     rfl
    refine pure_ (i := 26) (N := some 31) (v := undef) (a' := ?_) #[true, true, true, true, true, true, true, true, true, true, true, true, true, true, true, true, true, true, true, true, true, true, true, true, true, true, true, false, false, false, false] rfl rfl (any_of HT_.out (by kernel_rfl)) (fun _ _ _ h => h) (Or.inr ⟨by rfl, rfl⟩) ?_ ?_
    rotate_left
    ·simp only [Act.put, List.setIfInBounds_toArray, List.set_cons_zero, List.set_cons_succ, i64_w, i32_w]
     rfl
    refine pure_ (i := 27) (N := some 32) (v := undef) (a' := ?_) #[true, true, true, true, true, true, true, true, true, true, true, true, true, true, true, true, true, true, true, true, true, true, true, true, true, true, true, true, false, false, false] rfl rfl (any_of HT_.out (by kernel_rfl)) (fun _ _ _ h => h) (Or.inr ⟨by rfl, rfl⟩) ?_ ?_
    rotate_left
    ·simp only [Act.put, List.setIfInBounds_toArray, List.set_cons_zero, List.set_cons_succ, i64_w, i32_w]
     rfl
    refine pure_ (i := 28) (N := some 33) (v := undef) (a' := ?_) #[true, true, true, true, true, true, true, true, true, true, true, true, true, true, true, true, true, true, true, true, true, true, true, true, true, true, true, true, true, false, false] rfl rfl (any_of HT_.out (by kernel_rfl)) (fun _ _ _ h => h) (Or.inr ⟨by rfl, rfl⟩) ?_ ?_
    rotate_left
    ·simp only [Act.put, List.setIfInBounds_toArray, List.set_cons_zero, List.set_cons_succ, i64_w, i32_w]
     rfl
    refine pure_ (i := 29) (N := some 34) (v := ?_) (a' := ?_) #[true, true, true, true, true, true, true, true, true, true, true, true, true, true, true, true, true, true, true, true, true, true, true, true, true, true, true, true, true, true, false] rfl rfl (any_of HT_.out (by kernel_rfl)) (fun _ _ _ h => h) (Or.inl ⟨by rfl, ?_⟩) ?_ ?_
    rotate_left
    ·intro w'
     go_simp
     with_reducible rfl
    rotate_left
    ·simp only [Act.put, List.setIfInBounds_toArray, List.set_cons_zero, List.set_cons_succ, i64_w, i32_w]
     rfl
    refine pure_ (i := 30) (N := some 4) (v := ?_) (a' := ?_) #[true, true, true, true, true, true, true, true, true, true, true, true, true, true, true, true, true, true, true, true, true, true, true, true, true, true, true, true, true, true, true] rfl rfl (any_of HT_.out (by kernel_rfl)) (fun _ _ _ h => h) (Or.inl ⟨by rfl, ?_⟩) ?_ ?_
    rotate_left
    ·intro w'
     go_simp
     with_reducible rfl
    rotate_left
    ·simp only [Act.put, List.setIfInBounds_toArray, List.set_cons_zero, List.set_cons_succ, i64_w, i32_w]
     rfl
    refine done_ (done_of HT_.out (by kernel_rfl)) ?_
    try go_wp2
    go_ret
    exact ⟨by first | rfl | (simp [errW_none, errW_some] <;> rfl) | (simp [*, errW_none, errW_some] <;> rfl), by repeat (first | (with_reducible first | exact HB.out | apply below_alloc | apply pw_below_drewN | apply below_drew1 | refine below_set ?_ GE182.out | refine below_set ?_ GE183.out) | exact HB.out)⟩
  ·rw [if_neg c5] at H
   exact absurd H (by simp)
 ·replace c4 := Bool.eq_false_iff.mpr c4
  subst c4
  have H1 : (some false) = some r := by rw [if_neg (show ¬ (false = true) by decide)] at H; exact H
  clear H
  have H := H1
  clear H1
  obtain rfl := Option.some.inj H
  go_enter Tryz.func18, Tryz.ntmps18
  try go_wp2_with (first | ((with_reducible refine gate_dst (N := 2) rfl ?_); refine box_event ?hg (N := 2) ?hd (cs := #[.slice A0_0 l0_0.length c0_0, .bool a0_1]) (t := 30) ?hr ?_; (case hd => rfl); (case hg => rfl); (case hr => first | (go_simp; done) | (go_simp; rfl)); intro gb182 hg w31 hbox hb; have n0_ := Aside0.mk (below_step (by repeat (first | (with_reducible first | exact HB.out | apply below_alloc | apply pw_below_drewN | apply below_drew1) | exact HB.out)) hb); have n1_ := Aside0.mk (hbox); have n2_ := Aside0.mk ((by rw [hg]; exact (below_size (by repeat (first | (with_reducible first | exact HB.out | apply below_alloc | apply pw_below_drewN | apply below_drew1) | exact HB.out))) : w.heap.size ≤ gb182)); have n3_ := Aside0.mk ((by rw [hg]; exact (below_size (by repeat (first | (with_reducible first | exact HB.out | apply below_alloc | apply pw_below_drewN | apply below_drew1) | exact HB.out))) : w.heap.size ≤ gb182)); clear HB; have HB := n0_; have BK182 := n1_; have GW182 := n2_; have GE182 := n3_; clear n0_ n1_ n2_ n3_; clear hb hbox hg) | ((with_reducible refine gate_dst (N := 3) rfl ?_); refine box_event ?hg (N := 3) ?hd (cs := #[.int .i64 a1_0, .int .i64 a1_1, .int .i64 a1_2, .int .i64 a1_3, .int .i64 a1_4, .int .i64 a1_5]) (t := 43) ?hr ?_; (case hd => rfl); (case hg => rfl); (case hr => first | (go_simp; done) | (go_simp; rfl)); intro gb183 hg w32 hbox hb; have n0_ := Aside0.mk (blk_below (g := gb182) (o := .cells #[.slice A0_0 l0_0.length c0_0, .bool a0_1] 30 (0, 0)) (by (with_reducible repeat (first | refine blk_drewN ?_ _ | refine blk_drew ?_ | refine blk_alloc ?_ _)); exact BK182.out) hb); have n1_ := Aside0.mk (below_step (by repeat (first | (with_reducible first | exact HB.out | apply below_alloc | apply pw_below_drewN | apply below_drew1 | refine below_set ?_ GE182.out) | exact HB.out)) hb); have n2_ := Aside0.mk (hbox); have n3_ := Aside0.mk ((by rw [hg]; exact (below_size (by repeat (first | (with_reducible first | exact HB.out | apply below_alloc | apply pw_below_drewN | apply below_drew1 | refine below_set ?_ GE182.out) | exact HB.out))) : w.heap.size ≤ gb183)); have n4_ := Aside0.mk ((by rw [hg]; exact (below_size (by repeat (first | (with_reducible first | exact HB.out | apply below_alloc | apply pw_below_drewN | apply below_drew1 | refine below_set ?_ GE182.out) | exact HB.out))) : w.heap.size ≤ gb183)); have n5_ := Aside0.mk ((by rw [hg]; exact Nat.ne_of_lt (blk_lt (g := gb182) (o := .cells #[.slice A0_0 l0_0.length c0_0, .bool a0_1] 30 (0, 0)) (by (with_reducible repeat (first | refine blk_drewN ?_ _ | refine blk_drew ?_ | refine blk_alloc ?_ _)); exact BK182.out)) : gb182 ≠ gb183)); have n6_ := Aside0.mk ((by rw [hg]; exact Nat.ne_of_gt (blk_lt (g := gb182) (o := .cells #[.slice A0_0 l0_0.length c0_0, .bool a0_1] 30 (0, 0)) (by (with_reducible repeat (first | refine blk_drewN ?_ _ | refine blk_drew ?_ | refine blk_alloc ?_ _)); exact BK182.out)) : gb183 ≠ gb182)); clear BK182; clear HB; have BK182 := n0_; have HB := n1_; have BK183 := n2_; have GW183 := n3_; have GE183 := n4_; have NB182_183 := n5_; have NB183_182 := n6_; clear n0_ n1_ n2_ n3_ n4_ n5_ n6_; clear hb hbox hg))
  have n0_ := Aside0.mk (blk_drew BK182.out)
  have n1_ := Aside0.mk (blk_drew BK183.out)
  have n2_ := Aside0.mk (below_drew1 HB.out)
  clear BK182
  clear BK183
  clear HB
  have BK182 := n0_
  have BK183 := n1_
  have HB := n2_
  clear n0_ n1_ n2_
  refine start_ (n := 31) (S := fun w' => w'.cell? ⟨gb182, 0, none⟩ = some (.slice A0_0 l0_0.length c0_0) ∧ w'.cell? ⟨gb182, 1, none⟩ = some (.bool a0_1) ∧ w'.cell? ⟨gb183, 0, none⟩ = some (.int .i64 a1_0) ∧ w'.cell? ⟨gb183, 1, none⟩ = some (.int .i64 a1_1) ∧ w'.cell? ⟨gb183, 2, none⟩ = some (.int .i64 a1_2) ∧ w'.cell? ⟨gb183, 3, none⟩ = some (.int .i64 a1_3) ∧ w'.cell? ⟨gb183, 4, none⟩ = some (.int .i64 a1_4) ∧ w'.cell? ⟨gb183, 5, none⟩ = some (.int .i64 a1_5)) (ds := []) #[false, false, false, false, false, false, false, false, false, false, false, false, false, false, false, false, false, false, false, false, false, false, false, false, false, false, false, false, false, false, false] (by kernel_rfl) rfl rfl ⟨(blk_cell BK182.out 0).trans rfl, (blk_cell BK182.out 1).trans rfl, (blk_cell BK183.out 0).trans rfl, (blk_cell BK183.out 1).trans rfl, (blk_cell BK183.out 2).trans rfl, (blk_cell BK183.out 3).trans rfl, (blk_cell BK183.out 4).trans rfl, (blk_cell BK183.out 5).trans rfl⟩ (fun hHeld => ?_); refine with_tabW spec_Fits.tab1 spec_Fits.bits1 (fun HT_ HW_ => ?_)
  generalize w32.drew = w33 at BK182 BK183 HB hHeld ⊢
  refine take_ (i := 0) (N := some 5) (v := ?_) (a' := ?_) #[true, false, false, false, false, false, false, false, false, false, false, false, false, false, false, false, false, false, false, false, false, false, false, false, false, false, false, false, false, false, false] rfl rfl (take_ofW HT_.out HW_.out (by kernel_rfl)) (fun _ _ _ h => h) (Or.inl ⟨by rfl, ?_⟩) hHeld ?_ ?_
  rotate_left
  ·rintro w' ⟨s0, s1, s2, s3, s4, s5, s6, s7⟩
   go_simp
   with_reducible rfl
  rotate_left
  ·simp only [Act.put, List.setIfInBounds_toArray, List.set_cons_zero, List.set_cons_succ, i64_w, i32_w]
   rfl
  refine take_ (i := 1) (N := some 6) (v := ?_) (a' := ?_) #[true, true, false, false, false, false, false, false, false, false, false, false, false, false, false, false, false, false, false, false, false, false, false, false, false, false, false, false, false, false, false] rfl rfl (take_ofW HT_.out HW_.out (by kernel_rfl)) (fun _ _ _ h => h) (Or.inl ⟨by rfl, ?_⟩) hHeld ?_ ?_
  rotate_left
  ·rintro w' ⟨s0, s1, s2, s3, s4, s5, s6, s7⟩
   go_simp
   with_reducible rfl
  rotate_left
  ·simp only [Act.put, List.setIfInBounds_toArray, List.set_cons_zero, List.set_cons_succ, i64_w, i32_w]
   rfl
  refine one_ (i := 2) (N := some 7) #[true, true, true, false, false, false, false, false, false, false, false, false, false, false, false, false, false, false, false, false, false, false, false, false, false, false, false, false, false, false, false] rfl rfl (one_of HT_.out (by kernel_rfl)) (by decide) (fun K hK => ?_)
  refine goes_ Tryz.func35 (by kernel_rfl) rfl #[.agg #[.slice A0_0 l0_0.length c0_0, .bool a0_1], .agg #[.int .i64 a1_0, .int .i64 a1_1, .int .i64 a1_2, .int .i64 a1_3, .int .i64 a1_4, .int .i64 a1_5]] (by rfl) rfl rfl (by (try simp only [List.map_toArray, List.map_cons, List.map_nil]); first | done | rfl | (simp only [List.length_drop, List.length_take]; rfl)) ?_
  with_reducible refine (spec_DayFits.calls k _ _ l0_0 a0_1 a1_0 a1_1 a1_2 a1_3 a1_4 a1_5 false _ ?side1 ?side2 A3.out).mono ?_
  (case side1 => repeat (first | exact (Kd.C_below HR0_0.out HB.out) | (with_reducible refine Kd.C_alloc ?_ _) | (with_reducible refine Kd.C_drewN ?_ _) | (with_reducible refine Kd.C_drew ?_)))
  (case side2 => exact HC0_0.out)
  rintro e w34 ⟨rfl, hb⟩
  refine ⟨_, rfl, ?_⟩
  have n0_ := Aside0.mk (blk_below (g := gb182) (o := .cells #[.slice A0_0 l0_0.length c0_0, .bool a0_1] 30 (0, 0)) (by (with_reducible repeat (first | refine blk_drewN ?_ _ | refine blk_drew ?_ | refine blk_alloc ?_ _)); exact BK182.out) hb)
  have n1_ := Aside0.mk (blk_below (g := gb183) (o := .cells #[.int .i64 a1_0, .int .i64 a1_1, .int .i64 a1_2, .int .i64 a1_3, .int .i64 a1_4, .int .i64 a1_5] 43 (0, 0)) (by (with_reducible repeat (first | refine blk_drewN ?_ _ | refine blk_drew ?_ | refine blk_alloc ?_ _)); exact BK183.out) hb)
  have n2_ := Aside0.mk (below_step (by repeat (first | (with_reducible first | exact HB.out | apply below_alloc | apply pw_below_drewN | apply below_drew1 | refine below_set ?_ GE182.out | refine below_set ?_ GE183.out) | exact HB.out)) hb)
  clear BK182
  clear BK183
  clear HB
  have BK182 := n0_
  have BK183 := n1_
  have HB := n2_
  clear n0_ n1_ n2_
  (try clear hb)
  (try clear hb2)
  (try clear hk)
  (try clear hi)
  refine hK.out _ _ ⟨(blk_cell BK182.out 0).trans rfl, (blk_cell BK182.out 1).trans rfl, (blk_cell BK183.out 0).trans rfl, (blk_cell BK183.out 1).trans rfl, (blk_cell BK183.out 2).trans rfl, (blk_cell BK183.out 3).trans rfl, (blk_cell BK183.out 4).trans rfl, (blk_cell BK183.out 5).trans rfl⟩ (fun hHeld => ?_)
  clear hK K
  refine norm_ (a' := ?_) ?_ ?_
  rotate_left
  ·show Act.put _ (some 7) _ = _
   simp only [Act.put, List.setIfInBounds_toArray, List.set_cons_zero, List.set_cons_succ, i64_w, i32_w]
   rfl
  refine pure_ (i := 3) (N := some 8) (v := ?_) (a' := ?_) #[true, true, true, true, false, false, false, false, false, false, false, false, false, false, false, false, false, false, false, false, false, false, false, false, false, false, false, false, false, false, false] rfl rfl (any_of HT_.out (by kernel_rfl)) (fun _ _ _ h => h) (Or.inl ⟨by rfl, ?_⟩) ?_ ?_
  rotate_left
  ·intro w'
   go_simp
   with_reducible rfl
  rotate_left
  ·simp only [Act.put, List.setIfInBounds_toArray, List.set_cons_zero, List.set_cons_succ, i64_w, i32_w]
   rfl
  refine pure_ (i := 4) (N := some 9) (v := undef) (a' := ?_) #[true, true, true, true, true, false, false, false, false, false, false, false, false, false, false, false, false, false, false, false, false, false, false, false, false, false, false, false, false, false, false] rfl rfl (any_of HT_.out (by kernel_rfl)) (fun _ _ _ h => h) (Or.inr ⟨by rfl, rfl⟩) ?_ ?_
  rotate_left
  ·simp only [Act.put, List.setIfInBounds_toArray, List.set_cons_zero, List.set_cons_succ, i64_w, i32_w]
   rfl
  refine pure_ (i := 5) (N := some 10) (v := undef) (a' := ?_) #[true, true, true, true, true, true, false, false, false, false, false, false, false, false, false, false, false, false, false, false, false, false, false, false, false, false, false, false, false, false, false] rfl rfl (any_of HT_.out (by kernel_rfl)) (fun _ _ _ h => h) (Or.inr ⟨by rfl, rfl⟩) ?_ ?_
  rotate_left
  ·simp only [Act.put, List.setIfInBounds_toArray, List.set_cons_zero, List.set_cons_succ, i64_w, i32_w]
   rfl
  refine pure_ (i := 6) (N := some 11) (v := undef) (a' := ?_) #[true, true, true, true, true, true, true, false, false, false, false, false, false, false, false, false, false, false, false, false, false, false, false, false, false, false, false, false, false, false, false] rfl rfl (any_of HT_.out (by kernel_rfl)) (fun _ _ _ h => h) (Or.inr ⟨by rfl, rfl⟩) ?_ ?_
  rotate_left
  ·simp only [Act.put, List.setIfInBounds_toArray, List.set_cons_zero, List.set_cons_succ, i64_w, i32_w]
   rfl
  refine pure_ (i := 7) (N := some 12) (v := undef) (a' := ?_) #[true, true, true, true, true, true, true, true, false, false, false, false, false, false, false, false, false, false, false, false, false, false, false, false, false, false, false, false, false, false, false] rfl rfl (any_of HT_.out (by kernel_rfl)) (fun _ _ _ h => h) (Or.inr ⟨by rfl, rfl⟩) ?_ ?_
  rotate_left
  ·simp only [Act.put, List.setIfInBounds_toArray, List.set_cons_zero, List.set_cons_succ, i64_w, i32_w]
   rfl
  refine pure_ (i := 8) (N := some 13) (v := undef) (a' := ?_) #[true, true, true, true, true, true, true, true, true, false, false, false, false, false, false, false, false, false, false, false, false, false, false, false, false, false, false, false, false, false, false] rfl rfl (any_of HT_.out (by kernel_rfl)) (fun _ _ _ h => h) (Or.inr ⟨by rfl, rfl⟩) ?_ ?_
  rotate_left
  ·simp only [Act.put, List.setIfInBounds_toArray, List.set_cons_zero, List.set_cons_succ, i64_w, i32_w]
   rfl
  refine pure_ (i := 9) (N := some 14) (v := undef) (a' := ?_) #[true, true, true, true, true, true, true, true, true, true, false, false, false, false, false, false, false, false, false, false, false, false, false, false, false, false, false, false, false, false, false] rfl rfl (any_of HT_.out (by kernel_rfl)) (fun _ _ _ h => h) (Or.inr ⟨by rfl, rfl⟩) ?_ ?_
  rotate_left
  ·simp only [Act.put, List.setIfInBounds_toArray, List.set_cons_zero, List.set_cons_succ, i64_w, i32_w]
   rfl
  refine pure_ (i := 10) (N := some 15) (v := undef) (a' := ?_) #[true, true, true, true, true, true, true, true, true, true, true, false, false, false, false, false, false, false, false, false, false, false, false, false, false, false, false, false, false, false, false] rfl rfl (any_of HT_.out (by kernel_rfl)) (fun _ _ _ h => h) (Or.inr ⟨by rfl, rfl⟩) ?_ ?_
  rotate_left
  ·simp only [Act.put, List.setIfInBounds_toArray, List.set_cons_zero, List.set_cons_succ, i64_w, i32_w]
   rfl
  refine pure_ (i := 11) (N := some 16) (v := ?_) (a' := ?_) #[true, true, true, true, true, true, true, true, true, true, true, true, false, false, false, false, false, false, false, false, false, false, false, false, false, false, false, false, false, false, false] rfl rfl (any_of HT_.out (by kernel_rfl)) (fun _ _ _ h => h) (Or.inl ⟨by rfl, ?_⟩) ?_ ?_
  rotate_left
  ·intro w'
   go_simp
   with_reducible rfl
  rotate_left
  ·simp only [Act.put, List.setIfInBounds_toArray, List.set_cons_zero, List.set_cons_succ, i64_w, i32_w]
   rfl
  refine pure_ (i := 12) (N := some 17) (v := ?_) (a' := ?_) #[true, true, true, true, true, true, true, true, true, true, true, true, true, false, false, false, false, false, false, false, false, false, false, false, false, false, false, false, false, false, false] rfl rfl (any_of HT_.out (by kernel_rfl)) (fun _ _ _ h => h) (Or.inl ⟨by rfl, ?_⟩) ?_ ?_
  rotate_left
  ·intro w'
   go_simp
   with_reducible rfl
  rotate_left
  ·simp only [Act.put, List.setIfInBounds_toArray, List.set_cons_zero, List.set_cons_succ, i64_w, i32_w]
   rfl
  refine pure_ (i := 13) (N := some 18) (v := undef) (a' := ?_) #[true, true, true, true, true, true, true, true, true, true, true, true, true, true, false, false, false, false, false, false, false, false, false, false, false, false, false, false, false, false, false] rfl rfl (any_of HT_.out (by kernel_rfl)) (fun _ _ _ h => h) (Or.inr ⟨by rfl, rfl⟩) ?_ ?_
  rotate_left
  ·simp only [Act.put, List.setIfInBounds_toArray, List.set_cons_zero, List.set_cons_succ, i64_w, i32_w]
   rfl
  refine pure_ (i := 14) (N := some 19) (v := undef) (a' := ?_) #[true, true, true, true, true, true, true, true, true, true, true, true, true, true, true, false, false, false, false, false, false, false, false, false, false, false, false, false, false, false, false] rfl rfl (any_of HT_.out (by kernel_rfl)) (fun _ _ _ h => h) (Or.inr ⟨by rfl, rfl⟩) ?_ ?_
  rotate_left
  ·simp only [Act.put, List.setIfInBounds_toArray, List.set_cons_zero, List.set_cons_succ, i64_w, i32_w]
   rfl
  refine pure_ (i := 15) (N := some 20) (v := undef) (a' := ?_) #[true, true, true, true, true, true, true, true, true, true, true, true, true, true, true, true, false, false, false, false, false, false, false, false, false, false, false, false, false, false, false] rfl rfl (any_of HT_.out (by kernel_rfl)) (fun _ _ _ h => h) (Or.inr ⟨by rfl, rfl⟩) ?_ ?_
  rotate_left
  ·simp only [Act.put, List.setIfInBounds_toArray, List.set_cons_zero, List.set_cons_succ, i64_w, i32_w]
   rfl
  refine pure_ (i := 16) (N := some 21) (v := undef) (a' := ?_) #[true, true, true, true, true, true, true, true, true, true, true, true, true, true, true, true, true, false, false, false, false, false, false, false, false, false, false, false, false, false, false] rfl rfl (any_of HT_.out (by kernel_rfl)) (fun _ _ _ h => h) (Or.inr ⟨by rfl, rfl⟩) ?_ ?_
  rotate_left
  ·simp only [Act.put, List.setIfInBounds_toArray, List.set_cons_zero, List.set_cons_succ, i64_w, i32_w]
   rfl
  refine pure_ (i := 17) (N := some 22) (v := undef) (a' := ?_) #[true, true, true, true, true, true, true, true, true, true, true, true, true, true, true, true, true, true, false, false, false, false, false, false, false, false, false, false, false, false, false] rfl rfl (any_of HT_.out (by kernel_rfl)) (fun _ _ _ h => h) (Or.inr ⟨by rfl, rfl⟩) ?_ ?_
  rotate_left
  ·simp only [Act.put, List.setIfInBounds_toArray, List.set_cons_zero, List.set_cons_succ, i64_w, i32_w]
   rfl
  refine pure_ (i := 18) (N := some 23) (v := undef) (a' := ?_) #[true, true, true, true, true, true, true, true, true, true, true, true, true, true, true, true, true, true, true, false, false, false, false, false, false, false, false, false, false, false, false] rfl rfl (any_of HT_.out (by kernel_rfl)) (fun _ _ _ h => h) (Or.inr ⟨by rfl, rfl⟩) ?_ ?_
  rotate_left
  ·simp only [Act.put, List.setIfInBounds_toArray, List.set_cons_zero, List.set_cons_succ, i64_w, i32_w]
   rfl
  refine pure_ (i := 19) (N := some 24) (v := undef) (a' := ?_) #[true, true, true, true, true, true, true, true, true, true, true, true, true, true, true, true, true, true, true, true, false, false, false, false, false, false, false, false, false, false, false] rfl rfl (any_of HT_.out (by kernel_rfl)) (fun _ _ _ h => h) (Or.inr ⟨by rfl, rfl⟩) ?_ ?_
  rotate_left
  ·simp only [Act.put, List.setIfInBounds_toArray, List.set_cons_zero, List.set_cons_succ, i64_w, i32_w]
   rfl
  refine pure_ (i := 20) (N := some 25) (v := ?_) (a' := ?_) #[true, true, true, true, true, true, true, true, true, true, true, true, true, true, true, true, true, true, true, true, true, false, false, false, false, false, false, false, false, false, false] rfl rfl (any_of HT_.out (by kernel_rfl)) (fun _ _ _ h => h) (Or.inl ⟨by rfl, ?_⟩) ?_ ?_
  rotate_left
  ·intro w'
   go_simp
   with_reducible rfl
  rotate_left
  ·simp only [Act.put, List.setIfInBounds_toArray, List.set_cons_zero, List.set_cons_succ, i64_w, i32_w]
   rfl
  refine pure_ (i := 21) (N := some 26) (v := ?_) (a' := ?_) #[true, true, true, true, true, true, true, true, true, true, true, true, true, true, true, true, true, true, true, true, true, true, false, false, false, false, false, false, false, false, false] rfl rfl (any_of HT_.out (by kernel_rfl)) (fun _ _ _ h => h) (Or.inl ⟨by rfl, ?_⟩) ?_ ?_
  rotate_left
  ·intro w'
   go_simp
   with_reducible rfl
  rotate_left
  ·simp only [Act.put, List.setIfInBounds_toArray, List.set_cons_zero, List.set_cons_succ, i64_w, i32_w]
   rfl
  refine pure_ (i := 22) (N := some 27) (v := undef) (a' := ?_) #[true, true, true, true, true, true, true, true, true, true, true, true, true, true, true, true, true, true, true, true, true, true, true, false, false, false, false, false, false, false, false] rfl rfl (any_of HT_.out (by kernel_rfl)) (fun _ _ _ h => h) (Or.inr ⟨by rfl, rfl⟩) ?_ ?_
  rotate_left
  ·simp only [Act.put, List.setIfInBounds_toArray, List.set_cons_zero, List.set_cons_succ, i64_w, i32_w]
   rfl
  refine pure_ (i := 23) (N := some 28) (v := undef) (a' := ?_) #[true, true, true, true, true, true, true, true, true, true, true, true, true, true, true, true, true, true, true, true, true, true, true, true, false, false, false, false, false, false, false] rfl rfl (any_of HT_.out (by kernel_rfl)) (fun _ _ _ h => h) (Or.inr ⟨by rfl, rfl⟩) ?_ ?_
  rotate_left
  ·simp only [Act.put, List.setIfInBounds_toArray, List.set_cons_zero, List.set_cons_succ, i64_w, i32_w]
   rfl
  refine pure_ (i := 24) (N := some 29) (v := undef) (a' := ?_) #[true, true, true, true, true, true, true, true, true, true, true, true, true, true, true, true, true, true, true, true, true, true, true, true, true, false, false, false, false, false, false] rfl rfl (any_of HT_.out (by kernel_rfl)) (fun _ _ _ h => h) (Or.inr ⟨by rfl, rfl⟩) ?_ ?_
  rotate_left
  ·simp only [Act.put, List.setIfInBounds_toArray, List.set_cons_zero, List.set_cons_succ, i64_w, i32_w]
   rfl
  refine pure_ (i := 25) (N := some 30) (v := undef) (a' := ?_) #[true, true, true, true, true, true, true, true, true, true, true, true, true, true, true, true, true, true, true, true, true, true, true, true, true, true, false, false, false, false, false] rfl rfl (any_of HT_.out (by kernel_rfl)) (fun _ _ _ h => h) (Or.inr ⟨by rfl, rfl⟩) ?_ ?_
  rotate_left
  ·simp only [Act.put, List.setIfInBounds_toArray, List.set_cons_zero, List.set_cons_succ, i64_w, i32_w]
   rfl
  refine pure_ (i := 26) (N := some 31) (v := undef) (a' := ?_) #[true, true, true, true, true, true, true, true, true, true, true, true, true, true, true, true, true, true, true, true, true, true, true, true, true, true, true, false, false, false, false] rfl rfl (any_of HT_.out (by kernel_rfl)) (fun _ _ _ h => h) (Or.inr ⟨by rfl, rfl⟩) ?_ ?_
  rotate_left
  ·simp only [Act.put, List.setIfInBounds_toArray, List.set_cons_zero, List.set_cons_succ, i64_w, i32_w]
   rfl
  refine pure_ (i := 27) (N := some 32) (v := undef) (a' := ?_) #[true, true, true, true, true, true, true, true, true, true, true, true, true, true, true, true, true, true, true, true, true, true, true, true, true, true, true, true, false, false, false] rfl rfl (any_of HT_.out (by kernel_rfl)) (fun _ _ _ h => h) (Or.inr ⟨by rfl, rfl⟩) ?_ ?_
  rotate_left
  ·simp only [Act.put, List.setIfInBounds_toArray, List.set_cons_zero, List.set_cons_succ, i64_w, i32_w]
   rfl
  refine pure_ (i := 28) (N := some 33) (v := undef) (a' := ?_) #[true, true, true, true, true, true, true, true, true, true, true, true, true, true, true, true, true, true, true, true, true, true, true, true, true, true, true, true, true, false, false] rfl rfl (any_of HT_.out (by kernel_rfl)) (fun _ _ _ h => h) (Or.inr ⟨by rfl, rfl⟩) ?_ ?_
  rotate_left
  ·simp only [Act.put, List.setIfInBounds_toArray, List.set_cons_zero, List.set_cons_succ, i64_w, i32_w]
   rfl
  refine pure_ (i := 29) (N := some 34) (v := ?_) (a' := ?_) #[true, true, true, true, true, true, true, true, true, true, true, true, true, true, true, true, true, true, true, true, true, true, true, true, true, true, true, true, true, true, false] rfl rfl (any_of HT_.out (by kernel_rfl)) (fun _ _ _ h => h) (Or.inl ⟨by rfl, ?_⟩) ?_ ?_
  rotate_left
  ·intro w'
   go_simp
   with_reducible rfl
  rotate_left
  ·simp only [Act.put, List.setIfInBounds_toArray, List.set_cons_zero, List.set_cons_succ, i64_w, i32_w]
   rfl
  refine pure_ (i := 30) (N := some 4) (v := ?_) (a' := ?_) #[true, true, true, true, true, true, true, true, true, true, true, true, true, true, true, true, true, true, true, true, true, true, true, true, true, true, true, true, true, true, true] rfl rfl (any_of HT_.out (by kernel_rfl)) (fun _ _ _ h => h) (Or.inl ⟨by rfl, ?_⟩) ?_ ?_
  rotate_left
  ·intro w'
   go_simp
   with_reducible rfl
  rotate_left
  ·simp only [Act.put, List.setIfInBounds_toArray, List.set_cons_zero, List.set_cons_succ, i64_w, i32_w]
   rfl
  refine done_ (done_of HT_.out (by kernel_rfl)) ?_
  try go_wp2
  go_ret
  exact ⟨by first | rfl | (simp [errW_none, errW_some] <;> rfl) | (simp [*, errW_none, errW_some] <;> rfl), by repeat (first | (with_reducible first | exact HB.out | apply below_alloc | apply pw_below_drewN | apply below_drew1 | refine below_set ?_ GE182.out | refine below_set ?_ GE183.out) | exact HB.out)⟩
end Go.Proofs.YtemgofomhjabpaaGreatDoor.Core
namespace Go.Proofs.YtemgofomhjabpaaGreatDoor.Core
open Go.RowKit Go.Proofs.YtemgofomhjabpaaGreatDoorW.PrintWords Go.Proofs.YtemgofomhjabpaaGreatDoorW.PrintLast Go.Proofs.YtemgofomhjabpaaGreatDoorW.PrintMore
attribute [local go_sem] max2_int min2_int max_two min_two max_three min_three max_four min_four   -- for this text's walks alone
set_option linter.unusedVariables false
set_option linter.unusedSimpArgs false
def spec_ItemText.j0 : Nat → ByteArray → Bool → Bool → Int → Int → Int → Option (ByteArray)
 | 0, _, _, _, _, _, _ => none
 | k + 1, x3, x19, x156000, x156001, x156002, x156003 => if x19 = true then ((spec_Decimal.f k x156002).bind fun t158 => (if 1 + t158.size ≤ 9223372036854775807 then (if x3.size + ((⟨#[45]⟩ : ByteArray) ++ t158).size ≤ 9223372036854775807 then (if x156003 > 1 then ((spec_Decimal.f k x156003).bind fun t159 => (if 1 + t159.size ≤ 9223372036854775807 then (if (x3 ++ ((⟨#[45]⟩ : ByteArray) ++ t158)).size + ((⟨#[47]⟩ : ByteArray) ++ t159).size ≤ 9223372036854775807 then (some ((x3 ++ ((⟨#[45]⟩ : ByteArray) ++ t158)) ++ ((⟨#[47]⟩ : ByteArray) ++ t159))) else (none)) else (none))) else (some (x3 ++ ((⟨#[45]⟩ : ByteArray) ++ t158)))) else (none)) else (none))) else (if x156003 > 1 then ((spec_Decimal.f k x156003).bind fun t160 => (if 1 + t160.size ≤ 9223372036854775807 then (if x3.size + ((⟨#[47]⟩ : ByteArray) ++ t160).size ≤ 9223372036854775807 then (some (x3 ++ ((⟨#[47]⟩ : ByteArray) ++ t160))) else (none)) else (none))) else (some x3))
def spec_ItemText.f (k : Nat) (a0_0 : Bool) (a0_1 : Int) (a0_2 : Int) (a0_3 : Int) : Option (ByteArray) := if a0_0 = true then (if a0_3 > 1 then ((spec_Decimal.f k a0_3).bind fun t156 => (if 1 + t156.size ≤ 9223372036854775807 then (if 1 + ((⟨#[47]⟩ : ByteArray) ++ t156).size ≤ 9223372036854775807 then (some ((⟨#[42]⟩ : ByteArray) ++ ((⟨#[47]⟩ : ByteArray) ++ t156))) else (none)) else (none))) else (some (⟨#[42]⟩ : ByteArray))) else ((spec_Decimal.f k a0_1).bind fun t157 => (if a0_2 > a0_1 then (spec_ItemText.j0 k t157 true a0_0 a0_1 a0_2 a0_3) else (spec_ItemText.j0 k t157 (decide (a0_3 > 1)) a0_0 a0_1 a0_2 a0_3)))
set_option maxHeartbeats 8000000 in
set_option maxRecDepth 100000 in
theorem spec_ItemText.calls (k : Nat) (a0_0 : Bool) (a0_1 : Int) (a0_2 : Int) (a0_3 : Int) (r : ByteArray) (w : World) (h : spec_ItemText.f k a0_0 a0_1 a0_2 a0_3 = some r) :
  Calls Tryz.prog 34 #[.agg #[.bool a0_0, .int .i64 a0_1, .int .i64 a0_2, .int .i64 a0_3]] w fun e w' => e = .returned (.string r) ∧ Below w.heap.size w w' := by
 have hu38 := Tryz.underlying38
 have HB := Aside0.mk (Below.refl w.heap.size w)
 have H : (if a0_0 = true then (if a0_3 > 1 then ((spec_Decimal.f k a0_3).bind fun t156 => (if 1 + t156.size ≤ 9223372036854775807 then (if 1 + ((⟨#[47]⟩ : ByteArray) ++ t156).size ≤ 9223372036854775807 then (some ((⟨#[42]⟩ : ByteArray) ++ ((⟨#[47]⟩ : ByteArray) ++ t156))) else (none)) else (none))) else (some (⟨#[42]⟩ : ByteArray))) else ((spec_Decimal.f k a0_1).bind fun t157 => (if a0_2 > a0_1 then (spec_ItemText.j0 k t157 true a0_0 a0_1 a0_2 a0_3) else (spec_ItemText.j0 k t157 (decide (a0_3 > 1)) a0_0 a0_1 a0_2 a0_3)))) = some r := h
 clear h
 by_cases c2 : a0_0 = true
 ·subst c2
  have H1 : (if a0_3 > 1 then ((spec_Decimal.f k a0_3).bind fun t156 => (if 1 + t156.size ≤ 9223372036854775807 then (if 1 + ((⟨#[47]⟩ : ByteArray) ++ t156).size ≤ 9223372036854775807 then (some ((⟨#[42]⟩ : ByteArray) ++ ((⟨#[47]⟩ : ByteArray) ++ t156))) else (none)) else (none))) else (some (⟨#[42]⟩ : ByteArray))) = some r := by rw [if_pos rfl] at H; exact H
  clear H
  have H := H1
  clear H1
  by_cases c3 : a0_3 > 1
  ·rw [if_pos c3] at H
   have c3b0 : decide (1 < a0_3) = true := decide_eq_true c3
   clear c3
   replace H := Option.bind_eq_some_iff.mp H
   obtain ⟨t156, A40, H⟩ := H
   replace H : (if 1 + t156.size ≤ 9223372036854775807 then (if 1 + ((⟨#[47]⟩ : ByteArray) ++ t156).size ≤ 9223372036854775807 then (some ((⟨#[42]⟩ : ByteArray) ++ ((⟨#[47]⟩ : ByteArray) ++ t156))) else (none)) else (none)) = some r := H
   have A4 := Aside0.mk A40
   clear A40
   by_cases c5 : 1 + t156.size ≤ 9223372036854775807
   ·rw [if_pos c5] at H
    have c5b0 := eq_true c5
    have c5b1 : decide (1 + t156.size ≤ 9223372036854775807) = true := decide_eq_true c5
    try have c5b2 : (9223372036854775807 < 1 + t156.size) = False := eq_false (Nat.not_lt.2 c5)
    by_cases c6 : 1 + ((⟨#[47]⟩ : ByteArray) ++ t156).size ≤ 9223372036854775807
    ·rw [if_pos c6] at H
     have c6b0 := eq_true c6
     have c6b1 : decide (1 + ((⟨#[47]⟩ : ByteArray) ++ t156).size ≤ 9223372036854775807) = true := decide_eq_true c6
     try have c6b2 : (9223372036854775807 < 1 + ((⟨#[47]⟩ : ByteArray) ++ t156).size) = False := eq_false (Nat.not_lt.2 c6)
     (try have c6b3 : (9223372036854775807 < 1 + (1 + t156.size)) = False := eq_false (Nat.not_lt.2 (by have h_ := c6; (try simp only [ByteArray.size_append] at h_); exact h_)))
     obtain rfl := Option.some.inj H
     go_enter Tryz.func34, Tryz.ntmps34
     go_wp2_with (first | ((with_reducible refine gate_dst (N := 1) rfl ?_); refine box_event ?hg (N := 1) ?hd (cs := #[.bool true, .int .i64 a0_1, .int .i64 a0_2, .int .i64 a0_3]) (t := 38) ?hr ?_; (case hd => rfl); (case hg => rfl); (case hr => first | (go_simp; done) | (go_simp; rfl)); intro gb155 hg w7 hbox hb; have n0_ := Aside0.mk (below_step (by repeat (first | (with_reducible first | exact HB.out | apply below_alloc | apply pw_below_drewN | apply below_drew1) | exact HB.out)) hb); have n1_ := Aside0.mk (hbox); have n2_ := Aside0.mk ((by rw [hg]; exact (below_size (by repeat (first | (with_reducible first | exact HB.out | apply below_alloc | apply pw_below_drewN | apply below_drew1) | exact HB.out))) : w.heap.size ≤ gb155)); have n3_ := Aside0.mk ((by rw [hg]; exact (below_size (by repeat (first | (with_reducible first | exact HB.out | apply below_alloc | apply pw_below_drewN | apply below_drew1) | exact HB.out))) : w.heap.size ≤ gb155)); clear HB; have HB := n0_; have BK155 := n1_; have GW155 := n2_; have GE155 := n3_; clear n0_ n1_ n2_ n3_; clear hb hbox hg; have hcz8_0 : w7.cell? ⟨gb155, 0, none⟩ = some (.bool true) := (blk_cell BK155.out 0).trans rfl; have hcz8_1 : w7.cell? ⟨gb155, 1, none⟩ = some (.int .i64 a0_1) := (blk_cell BK155.out 1).trans rfl; have hcz8_2 : w7.cell? ⟨gb155, 2, none⟩ = some (.int .i64 a0_2) := (blk_cell BK155.out 2).trans rfl; have hcz8_3 : w7.cell? ⟨gb155, 3, none⟩ = some (.int .i64 a0_3) := (blk_cell BK155.out 3).trans rfl; have hfz8_0 := blk_frozen BK155.out 0; have hfz8_1 := blk_frozen BK155.out 1; have hfz8_2 := blk_frozen BK155.out 2; have hfz8_3 := blk_frozen BK155.out 3) | ((with_reducible refine gate_callee (f := 24) rfl ?_); refine goesL_ (some 32) rfl rfl Tryz.func24 (by kernel_rfl) rfl #[.int .i64 a0_3] rfl (by (try simp only [List.map_toArray, List.map_cons, List.map_nil]); first | done | rfl | (simp only [List.length_drop, List.length_take]; rfl)) ?_; (with_reducible refine (spec_Decimal.calls k a0_3 t156 _ A4.out).mono ?_); rintro e w' ⟨rfl, ⟨nd, rfl⟩⟩; refine ⟨_, rfl, ?_⟩))
     go_ret
     exact ⟨by first | rfl | (simp [errW_none, errW_some] <;> rfl) | (simp [*, errW_none, errW_some] <;> rfl), by repeat (first | (with_reducible first | exact HB.out | apply below_alloc | apply pw_below_drewN | apply below_drew1 | refine below_set ?_ GE155.out) | exact HB.out)⟩
    ·rw [if_neg c6] at H
     exact absurd H (by simp)
   ·rw [if_neg c5] at H
    exact absurd H (by simp)
  ·rw [if_neg c3] at H
   have c3b0 : decide (1 < a0_3) = false := decide_eq_false c3
   clear c3
   obtain rfl := Option.some.inj H
   go_enter Tryz.func34, Tryz.ntmps34
   go_wp2_with (first | ((with_reducible refine gate_dst (N := 1) rfl ?_); refine box_event ?hg (N := 1) ?hd (cs := #[.bool true, .int .i64 a0_1, .int .i64 a0_2, .int .i64 a0_3]) (t := 38) ?hr ?_; (case hd => rfl); (case hg => rfl); (case hr => first | (go_simp; done) | (go_simp; rfl)); intro gb155 hg w9 hbox hb; have n0_ := Aside0.mk (below_step (by repeat (first | (with_reducible first | exact HB.out | apply below_alloc | apply pw_below_drewN | apply below_drew1) | exact HB.out)) hb); have n1_ := Aside0.mk (hbox); have n2_ := Aside0.mk ((by rw [hg]; exact (below_size (by repeat (first | (with_reducible first | exact HB.out | apply below_alloc | apply pw_below_drewN | apply below_drew1) | exact HB.out))) : w.heap.size ≤ gb155)); have n3_ := Aside0.mk ((by rw [hg]; exact (below_size (by repeat (first | (with_reducible first | exact HB.out | apply below_alloc | apply pw_below_drewN | apply below_drew1) | exact HB.out))) : w.heap.size ≤ gb155)); clear HB; have HB := n0_; have BK155 := n1_; have GW155 := n2_; have GE155 := n3_; clear n0_ n1_ n2_ n3_; clear hb hbox hg; have hcz10_0 : w9.cell? ⟨gb155, 0, none⟩ = some (.bool true) := (blk_cell BK155.out 0).trans rfl; have hcz10_1 : w9.cell? ⟨gb155, 1, none⟩ = some (.int .i64 a0_1) := (blk_cell BK155.out 1).trans rfl; have hcz10_2 : w9.cell? ⟨gb155, 2, none⟩ = some (.int .i64 a0_2) := (blk_cell BK155.out 2).trans rfl; have hcz10_3 : w9.cell? ⟨gb155, 3, none⟩ = some (.int .i64 a0_3) := (blk_cell BK155.out 3).trans rfl; have hfz10_0 := blk_frozen BK155.out 0; have hfz10_1 := blk_frozen BK155.out 1; have hfz10_2 := blk_frozen BK155.out 2; have hfz10_3 := blk_frozen BK155.out 3))
   go_ret
   exact ⟨by first | rfl | (simp [errW_none, errW_some] <;> rfl) | (simp [*, errW_none, errW_some] <;> rfl), by repeat (first | (with_reducible first | exact HB.out | apply below_alloc | apply pw_below_drewN | apply below_drew1 | refine below_set ?_ GE155.out) | exact HB.out)⟩
 ·replace c2 := Bool.eq_false_iff.mpr c2
  subst c2
  have H1 : ((spec_Decimal.f k a0_1).bind fun t157 => (if a0_2 > a0_1 then (spec_ItemText.j0 k t157 true false a0_1 a0_2 a0_3) else (spec_ItemText.j0 k t157 (decide (a0_3 > 1)) false a0_1 a0_2 a0_3))) = some r := by rw [if_neg (show ¬ (false = true) by decide)] at H; exact H
  clear H
  have H := H1
  clear H1
  replace H := Option.bind_eq_some_iff.mp H
  obtain ⟨t157, A110, H⟩ := H
  replace H : (if a0_2 > a0_1 then (spec_ItemText.j0 k t157 true false a0_1 a0_2 a0_3) else (spec_ItemText.j0 k t157 (decide (a0_3 > 1)) false a0_1 a0_2 a0_3)) = some r := H
  have A11 := Aside0.mk A110
  clear A110
  have HC12 := Aside0.mk H
  clear H
  go_enter Tryz.func34, Tryz.ntmps34
  go_upto_region 4 with (first | ((with_reducible refine gate_dst (N := 1) rfl ?_); refine box_event ?hg (N := 1) ?hd (cs := #[.bool false, .int .i64 a0_1, .int .i64 a0_2, .int .i64 a0_3]) (t := 38) ?hr ?_; (case hd => rfl); (case hg => rfl); (case hr => first | (go_simp; done) | (go_simp; rfl)); intro gb155 hg w13 hbox hb; have n0_ := Aside0.mk (below_step (by repeat (first | (with_reducible first | exact HB.out | apply below_alloc | apply pw_below_drewN | apply below_drew1) | exact HB.out)) hb); have n1_ := Aside0.mk (hbox); have n2_ := Aside0.mk ((by rw [hg]; exact (below_size (by repeat (first | (with_reducible first | exact HB.out | apply below_alloc | apply pw_below_drewN | apply below_drew1) | exact HB.out))) : w.heap.size ≤ gb155)); have n3_ := Aside0.mk ((by rw [hg]; exact (below_size (by repeat (first | (with_reducible first | exact HB.out | apply below_alloc | apply pw_below_drewN | apply below_drew1) | exact HB.out))) : w.heap.size ≤ gb155)); clear HB; have HB := n0_; have BK155 := n1_; have GW155 := n2_; have GE155 := n3_; clear n0_ n1_ n2_ n3_; clear hb hbox hg; have hcz14_0 : w13.cell? ⟨gb155, 0, none⟩ = some (.bool false) := (blk_cell BK155.out 0).trans rfl; have hcz14_1 : w13.cell? ⟨gb155, 1, none⟩ = some (.int .i64 a0_1) := (blk_cell BK155.out 1).trans rfl; have hcz14_2 : w13.cell? ⟨gb155, 2, none⟩ = some (.int .i64 a0_2) := (blk_cell BK155.out 2).trans rfl; have hcz14_3 : w13.cell? ⟨gb155, 3, none⟩ = some (.int .i64 a0_3) := (blk_cell BK155.out 3).trans rfl; have hfz14_0 := blk_frozen BK155.out 0; have hfz14_1 := blk_frozen BK155.out 1; have hfz14_2 := blk_frozen BK155.out 2; have hfz14_3 := blk_frozen BK155.out 3) | ((with_reducible refine gate_callee (f := 24) rfl ?_); refine goesL_ (some 9) rfl rfl Tryz.func24 (by kernel_rfl) rfl #[.int .i64 a0_1] rfl (by (try simp only [List.map_toArray, List.map_cons, List.map_nil]); first | done | rfl | (simp only [List.length_drop, List.length_take]; rfl)) ?_; (with_reducible refine (spec_Decimal.calls k a0_1 t157 _ A11.out).mono ?_); rintro e w' ⟨rfl, ⟨nd, rfl⟩⟩; refine ⟨_, rfl, ?_⟩))
  (try simp only [Act.put, List.setIfInBounds_toArray, List.set_cons_zero, List.set_cons_succ])
  go_cut [19] (fun v19 wc => ∃ (kq : Nat) (x19_11 : Bool), v19 = .bool x19_11 ∧ Aside0 (spec_ItemText.j0 kq t157 x19_11 false a0_1 a0_2 a0_3 = some r) ∧ Aside0 (kq ≤ k) ∧ Aside0 (wc.heap[gb155]? = some (.cells #[.bool false, .int .i64 a0_1, .int .i64 a0_2, .int .i64 a0_3] 38 (0, 0))) ∧ Aside0 (Below w.heap.size w wc))
  case first =>
   have H := HC12.out
   clear HC12
   by_cases c15 : a0_2 > a0_1
   ·rw [if_pos c15] at H
    have c15b0 : decide (a0_1 < a0_2) = true := decide_eq_true c15
    clear c15
    (first | rw [c15b0] | (simp only [i64_w, i32_w]; rw [c15b0]) | skip)
    have H' := Aside0.mk H
    clear H
    have hcz16_0 : w13.cell? ⟨gb155, 0, none⟩ = some (.bool false) := (blk_cell BK155.out 0).trans rfl
    have hcz16_1 : w13.cell? ⟨gb155, 1, none⟩ = some (.int .i64 a0_1) := (blk_cell BK155.out 1).trans rfl
    have hcz16_2 : w13.cell? ⟨gb155, 2, none⟩ = some (.int .i64 a0_2) := (blk_cell BK155.out 2).trans rfl
    have hcz16_3 : w13.cell? ⟨gb155, 3, none⟩ = some (.int .i64 a0_3) := (blk_cell BK155.out 3).trans rfl
    have hfz16_0 := blk_frozen BK155.out 0
    have hfz16_1 := blk_frozen BK155.out 1
    have hfz16_2 := blk_frozen BK155.out 2
    have hfz16_3 := blk_frozen BK155.out 3
    go_wp2
    go_meet
    case rel => exact ⟨_, (true), (by first | rfl | (simp; done) | (simp [*]; done)), H', ⟨by first | omega | exact Nat.le_refl _⟩, ⟨by (with_reducible repeat (first | refine blk_drewN ?_ _ | refine blk_drew ?_ | refine blk_alloc ?_ _)); exact BK155.out⟩, ⟨by repeat (first | (with_reducible first | exact HB.out | apply below_alloc | apply pw_below_drewN | apply below_drew1 | refine below_set ?_ GE155.out) | exact HB.out)⟩⟩
   ·rw [if_neg c15] at H
    have c15b0 : decide (a0_1 < a0_2) = false := decide_eq_false c15
    clear c15
    (first | rw [c15b0] | (simp only [i64_w, i32_w]; rw [c15b0]) | skip)
    have H' := Aside0.mk H
    clear H
    have hcz17_0 : w13.cell? ⟨gb155, 0, none⟩ = some (.bool false) := (blk_cell BK155.out 0).trans rfl
    have hcz17_1 : w13.cell? ⟨gb155, 1, none⟩ = some (.int .i64 a0_1) := (blk_cell BK155.out 1).trans rfl
    have hcz17_2 : w13.cell? ⟨gb155, 2, none⟩ = some (.int .i64 a0_2) := (blk_cell BK155.out 2).trans rfl
    have hcz17_3 : w13.cell? ⟨gb155, 3, none⟩ = some (.int .i64 a0_3) := (blk_cell BK155.out 3).trans rfl
    have hfz17_0 := blk_frozen BK155.out 0
    have hfz17_1 := blk_frozen BK155.out 1
    have hfz17_2 := blk_frozen BK155.out 2
    have hfz17_3 := blk_frozen BK155.out 3
    go_wp2
    go_meet
    case rel => exact ⟨_, (decide (a0_3 > 1)), (by first | rfl | (simp; done) | (simp [*]; done)), H', ⟨by first | omega | exact Nat.le_refl _⟩, ⟨by (with_reducible repeat (first | refine blk_drewN ?_ _ | refine blk_drew ?_ | refine blk_alloc ?_ _)); exact BK155.out⟩, ⟨by repeat (first | (with_reducible first | exact HB.out | apply below_alloc | apply pw_below_drewN | apply below_drew1 | refine below_set ?_ GE155.out) | exact HB.out)⟩⟩
  case rest =>
   clear HC12
   try clear c1
   try clear c2
   try clear p2
   try clear c3
   try clear c3b0
   try clear c5
   try clear c5b0
   try clear c5b1
   try clear c5b2
   try clear c6
   try clear c6b0
   try clear c6b1
   try clear c6b2
   try clear c15
   try clear c15b0
   try clear hcz10_0
   try clear hcz10_1
   try clear hcz10_2
   try clear hcz10_3
   try clear hcz14_0
   try clear hcz14_1
   try clear hcz14_2
   try clear hcz14_3
   try clear hcz16_0
   try clear hcz16_1
   try clear hcz16_2
   try clear hcz16_3
   try clear hcz17_0
   try clear hcz17_1
   try clear hcz17_2
   try clear hcz17_3
   try clear hcz8_0
   try clear hcz8_1
   try clear hcz8_2
   try clear hcz8_3
   try clear hfz10_0
   try clear hfz10_1
   try clear hfz10_2
   try clear hfz10_3
   try clear hfz14_0
   try clear hfz14_1
   try clear hfz14_2
   try clear hfz14_3
   try clear hfz16_0
   try clear hfz16_1
   try clear hfz16_2
   try clear hfz16_3
   try clear hfz17_0
   try clear hfz17_1
   try clear hfz17_2
   try clear hfz17_3
   try clear hfz8_0
   try clear hfz8_1
   try clear hfz8_2
   try clear hfz8_3
   obtain ⟨kq, x19_11, rfl, HA, HJ11, BK155, HB⟩ := hcut
   cases kq with
   | zero => exact absurd HA.out (by simp [spec_ItemText.j0])
   | succ kj11 =>
    have H := HA.out
    clear HA
    simp only [spec_ItemText.j0] at H
    by_cases c18 : x19_11 = true
    ·subst c18
     have H1 : ((spec_Decimal.f kj11 a0_2).bind fun t158 => (if 1 + t158.size ≤ 9223372036854775807 then (if t157.size + ((⟨#[45]⟩ : ByteArray) ++ t158).size ≤ 9223372036854775807 then (if a0_3 > 1 then ((spec_Decimal.f kj11 a0_3).bind fun t159 => (if 1 + t159.size ≤ 9223372036854775807 then (if (t157 ++ ((⟨#[45]⟩ : ByteArray) ++ t158)).size + ((⟨#[47]⟩ : ByteArray) ++ t159).size ≤ 9223372036854775807 then (some ((t157 ++ ((⟨#[45]⟩ : ByteArray) ++ t158)) ++ ((⟨#[47]⟩ : ByteArray) ++ t159))) else (none)) else (none))) else (some (t157 ++ ((⟨#[45]⟩ : ByteArray) ++ t158)))) else (none)) else (none))) = some r := by rw [if_pos rfl] at H; exact H
     clear H
     have H := H1
     clear H1
     replace H := Option.bind_eq_some_iff.mp H
     obtain ⟨t158, A190, H⟩ := H
     replace H : (if 1 + t158.size ≤ 9223372036854775807 then (if t157.size + ((⟨#[45]⟩ : ByteArray) ++ t158).size ≤ 9223372036854775807 then (if a0_3 > 1 then ((spec_Decimal.f kj11 a0_3).bind fun t159 => (if 1 + t159.size ≤ 9223372036854775807 then (if (t157 ++ ((⟨#[45]⟩ : ByteArray) ++ t158)).size + ((⟨#[47]⟩ : ByteArray) ++ t159).size ≤ 9223372036854775807 then (some ((t157 ++ ((⟨#[45]⟩ : ByteArray) ++ t158)) ++ ((⟨#[47]⟩ : ByteArray) ++ t159))) else (none)) else (none))) else (some (t157 ++ ((⟨#[45]⟩ : ByteArray) ++ t158)))) else (none)) else (none)) = some r := H
     have A19 := Aside0.mk A190
     clear A190
     by_cases c20 : 1 + t158.size ≤ 9223372036854775807
     ·rw [if_pos c20] at H
      have c20b0 := eq_true c20
      have c20b1 : decide (1 + t158.size ≤ 9223372036854775807) = true := decide_eq_true c20
      try have c20b2 : (9223372036854775807 < 1 + t158.size) = False := eq_false (Nat.not_lt.2 c20)
      by_cases c21 : t157.size + ((⟨#[45]⟩ : ByteArray) ++ t158).size ≤ 9223372036854775807
      ·rw [if_pos c21] at H
       have c21b0 := eq_true c21
       have c21b1 : decide (t157.size + ((⟨#[45]⟩ : ByteArray) ++ t158).size ≤ 9223372036854775807) = true := decide_eq_true c21
       try have c21b2 : (9223372036854775807 < t157.size + ((⟨#[45]⟩ : ByteArray) ++ t158).size) = False := eq_false (Nat.not_lt.2 c21)
       (try have c21b3 : (9223372036854775807 < t157.size + (1 + t158.size)) = False := eq_false (Nat.not_lt.2 (by have h_ := c21; (try simp only [ByteArray.size_append] at h_); exact h_)))
       by_cases c22 : a0_3 > 1
       ·rw [if_pos c22] at H
        have c22b0 : decide (1 < a0_3) = true := decide_eq_true c22
        clear c22
        replace H := Option.bind_eq_some_iff.mp H
        obtain ⟨t159, A230, H⟩ := H
        replace H : (if 1 + t159.size ≤ 9223372036854775807 then (if (t157 ++ ((⟨#[45]⟩ : ByteArray) ++ t158)).size + ((⟨#[47]⟩ : ByteArray) ++ t159).size ≤ 9223372036854775807 then (some ((t157 ++ ((⟨#[45]⟩ : ByteArray) ++ t158)) ++ ((⟨#[47]⟩ : ByteArray) ++ t159))) else (none)) else (none)) = some r := H
        have A23 := Aside0.mk A230
        clear A230
        by_cases c24 : 1 + t159.size ≤ 9223372036854775807
        ·rw [if_pos c24] at H
         have c24b0 := eq_true c24
         have c24b1 : decide (1 + t159.size ≤ 9223372036854775807) = true := decide_eq_true c24
         try have c24b2 : (9223372036854775807 < 1 + t159.size) = False := eq_false (Nat.not_lt.2 c24)
         by_cases c25 : (t157 ++ ((⟨#[45]⟩ : ByteArray) ++ t158)).size + ((⟨#[47]⟩ : ByteArray) ++ t159).size ≤ 9223372036854775807
         ·rw [if_pos c25] at H
          have c25b0 := eq_true c25
          have c25b1 : decide ((t157 ++ ((⟨#[45]⟩ : ByteArray) ++ t158)).size + ((⟨#[47]⟩ : ByteArray) ++ t159).size ≤ 9223372036854775807) = true := decide_eq_true c25
          try have c25b2 : (9223372036854775807 < (t157 ++ ((⟨#[45]⟩ : ByteArray) ++ t158)).size + ((⟨#[47]⟩ : ByteArray) ++ t159).size) = False := eq_false (Nat.not_lt.2 c25)
          (try have c25b3 : (9223372036854775807 < (t157.size + (1 + t158.size)) + (1 + t159.size)) = False := eq_false (Nat.not_lt.2 (by have h_ := c25; (try simp only [ByteArray.size_append] at h_); exact h_)))
          obtain rfl := Option.some.inj H
          have hcz26_0 : wc.cell? ⟨gb155, 0, none⟩ = some (.bool false) := (blk_cell BK155.out 0).trans rfl
          have hcz26_1 : wc.cell? ⟨gb155, 1, none⟩ = some (.int .i64 a0_1) := (blk_cell BK155.out 1).trans rfl
          have hcz26_2 : wc.cell? ⟨gb155, 2, none⟩ = some (.int .i64 a0_2) := (blk_cell BK155.out 2).trans rfl
          have hcz26_3 : wc.cell? ⟨gb155, 3, none⟩ = some (.int .i64 a0_3) := (blk_cell BK155.out 3).trans rfl
          have hfz26_0 := blk_frozen BK155.out 0
          have hfz26_1 := blk_frozen BK155.out 1
          have hfz26_2 := blk_frozen BK155.out 2
          have hfz26_3 := blk_frozen BK155.out 3
          go_wp2_with (first | ((with_reducible refine gate_callee (f := 24) rfl ?_); refine goesL_ (some 23) rfl rfl Tryz.func24 (by kernel_rfl) rfl #[.int .i64 a0_2] rfl (by (try simp only [List.map_toArray, List.map_cons, List.map_nil]); first | done | rfl | (simp only [List.length_drop, List.length_take]; rfl)) ?_; (with_reducible refine (spec_Decimal.calls kj11 a0_2 t158 _ A19.out).mono ?_); rintro e w' ⟨rfl, ⟨nd, rfl⟩⟩; refine ⟨_, rfl, ?_⟩) | ((with_reducible refine gate_callee (f := 24) rfl ?_); refine goesL_ (some 32) rfl rfl Tryz.func24 (by kernel_rfl) rfl #[.int .i64 a0_3] rfl (by (try simp only [List.map_toArray, List.map_cons, List.map_nil]); first | done | rfl | (simp only [List.length_drop, List.length_take]; rfl)) ?_; (with_reducible refine (spec_Decimal.calls kj11 a0_3 t159 _ A23.out).mono ?_); rintro e w' ⟨rfl, ⟨nd, rfl⟩⟩; refine ⟨_, rfl, ?_⟩))
          go_ret
          exact ⟨by first | rfl | (simp [errW_none, errW_some] <;> rfl) | (simp [*, errW_none, errW_some] <;> rfl), by repeat (first | (with_reducible first | exact HB.out | apply below_alloc | apply pw_below_drewN | apply below_drew1 | refine below_set ?_ GE155.out) | exact HB.out)⟩
         ·rw [if_neg c25] at H
          exact absurd H (by simp)
        ·rw [if_neg c24] at H
         exact absurd H (by simp)
       ·rw [if_neg c22] at H
        have c22b0 : decide (1 < a0_3) = false := decide_eq_false c22
        clear c22
        obtain rfl := Option.some.inj H
        have hcz27_0 : wc.cell? ⟨gb155, 0, none⟩ = some (.bool false) := (blk_cell BK155.out 0).trans rfl
        have hcz27_1 : wc.cell? ⟨gb155, 1, none⟩ = some (.int .i64 a0_1) := (blk_cell BK155.out 1).trans rfl
        have hcz27_2 : wc.cell? ⟨gb155, 2, none⟩ = some (.int .i64 a0_2) := (blk_cell BK155.out 2).trans rfl
        have hcz27_3 : wc.cell? ⟨gb155, 3, none⟩ = some (.int .i64 a0_3) := (blk_cell BK155.out 3).trans rfl
        have hfz27_0 := blk_frozen BK155.out 0
        have hfz27_1 := blk_frozen BK155.out 1
        have hfz27_2 := blk_frozen BK155.out 2
        have hfz27_3 := blk_frozen BK155.out 3
        go_wp2_with (first | ((with_reducible refine gate_callee (f := 24) rfl ?_); refine goesL_ (some 23) rfl rfl Tryz.func24 (by kernel_rfl) rfl #[.int .i64 a0_2] rfl (by (try simp only [List.map_toArray, List.map_cons, List.map_nil]); first | done | rfl | (simp only [List.length_drop, List.length_take]; rfl)) ?_; (with_reducible refine (spec_Decimal.calls kj11 a0_2 t158 _ A19.out).mono ?_); rintro e w' ⟨rfl, ⟨nd, rfl⟩⟩; refine ⟨_, rfl, ?_⟩))
        go_ret
        exact ⟨by first | rfl | (simp [errW_none, errW_some] <;> rfl) | (simp [*, errW_none, errW_some] <;> rfl), by repeat (first | (with_reducible first | exact HB.out | apply below_alloc | apply pw_below_drewN | apply below_drew1 | refine below_set ?_ GE155.out) | exact HB.out)⟩
      ·rw [if_neg c21] at H
       exact absurd H (by simp)
     ·rw [if_neg c20] at H
      exact absurd H (by simp)
    ·replace c18 := Bool.eq_false_iff.mpr c18
     subst c18
     have H1 : (if a0_3 > 1 then ((spec_Decimal.f kj11 a0_3).bind fun t160 => (if 1 + t160.size ≤ 9223372036854775807 then (if t157.size + ((⟨#[47]⟩ : ByteArray) ++ t160).size ≤ 9223372036854775807 then (some (t157 ++ ((⟨#[47]⟩ : ByteArray) ++ t160))) else (none)) else (none))) else (some t157)) = some r := by rw [if_neg (show ¬ (false = true) by decide)] at H; exact H
     clear H
     have H := H1
     clear H1
     by_cases c28 : a0_3 > 1
     ·rw [if_pos c28] at H
      have c28b0 : decide (1 < a0_3) = true := decide_eq_true c28
      clear c28
      replace H := Option.bind_eq_some_iff.mp H
      obtain ⟨t160, A290, H⟩ := H
      replace H : (if 1 + t160.size ≤ 9223372036854775807 then (if t157.size + ((⟨#[47]⟩ : ByteArray) ++ t160).size ≤ 9223372036854775807 then (some (t157 ++ ((⟨#[47]⟩ : ByteArray) ++ t160))) else (none)) else (none)) = some r := H
      have A29 := Aside0.mk A290
      clear A290
      by_cases c30 : 1 + t160.size ≤ 9223372036854775807
      ·rw [if_pos c30] at H
       have c30b0 := eq_true c30
       have c30b1 : decide (1 + t160.size ≤ 9223372036854775807) = true := decide_eq_true c30
       try have c30b2 : (9223372036854775807 < 1 + t160.size) = False := eq_false (Nat.not_lt.2 c30)
       by_cases c31 : t157.size + ((⟨#[47]⟩ : ByteArray) ++ t160).size ≤ 9223372036854775807
       ·rw [if_pos c31] at H
        have c31b0 := eq_true c31
        have c31b1 : decide (t157.size + ((⟨#[47]⟩ : ByteArray) ++ t160).size ≤ 9223372036854775807) = true := decide_eq_true c31
        try have c31b2 : (9223372036854775807 < t157.size + ((⟨#[47]⟩ : ByteArray) ++ t160).size) = False := eq_false (Nat.not_lt.2 c31)
        (try have c31b3 : (9223372036854775807 < t157.size + (1 + t160.size)) = False := eq_false (Nat.not_lt.2 (by have h_ := c31; (try simp only [ByteArray.size_append] at h_); exact h_)))
        obtain rfl := Option.some.inj H
        have hcz32_0 : wc.cell? ⟨gb155, 0, none⟩ = some (.bool false) := (blk_cell BK155.out 0).trans rfl
        have hcz32_1 : wc.cell? ⟨gb155, 1, none⟩ = some (.int .i64 a0_1) := (blk_cell BK155.out 1).trans rfl
        have hcz32_2 : wc.cell? ⟨gb155, 2, none⟩ = some (.int .i64 a0_2) := (blk_cell BK155.out 2).trans rfl
        have hcz32_3 : wc.cell? ⟨gb155, 3, none⟩ = some (.int .i64 a0_3) := (blk_cell BK155.out 3).trans rfl
        have hfz32_0 := blk_frozen BK155.out 0
        have hfz32_1 := blk_frozen BK155.out 1
        have hfz32_2 := blk_frozen BK155.out 2
        have hfz32_3 := blk_frozen BK155.out 3
        go_wp2_with (first | ((with_reducible refine gate_callee (f := 24) rfl ?_); refine goesL_ (some 32) rfl rfl Tryz.func24 (by kernel_rfl) rfl #[.int .i64 a0_3] rfl (by (try simp only [List.map_toArray, List.map_cons, List.map_nil]); first | done | rfl | (simp only [List.length_drop, List.length_take]; rfl)) ?_; (with_reducible refine (spec_Decimal.calls kj11 a0_3 t160 _ A29.out).mono ?_); rintro e w' ⟨rfl, ⟨nd, rfl⟩⟩; refine ⟨_, rfl, ?_⟩))
        go_ret
        exact ⟨by first | rfl | (simp [errW_none, errW_some] <;> rfl) | (simp [*, errW_none, errW_some] <;> rfl), by repeat (first | (with_reducible first | exact HB.out | apply below_alloc | apply pw_below_drewN | apply below_drew1 | refine below_set ?_ GE155.out) | exact HB.out)⟩
       ·rw [if_neg c31] at H
        exact absurd H (by simp)
      ·rw [if_neg c30] at H
       exact absurd H (by simp)
     ·rw [if_neg c28] at H
      have c28b0 : decide (1 < a0_3) = false := decide_eq_false c28
      clear c28
      obtain rfl := Option.some.inj H
      have hcz33_0 : wc.cell? ⟨gb155, 0, none⟩ = some (.bool false) := (blk_cell BK155.out 0).trans rfl
      have hcz33_1 : wc.cell? ⟨gb155, 1, none⟩ = some (.int .i64 a0_1) := (blk_cell BK155.out 1).trans rfl
      have hcz33_2 : wc.cell? ⟨gb155, 2, none⟩ = some (.int .i64 a0_2) := (blk_cell BK155.out 2).trans rfl
      have hcz33_3 : wc.cell? ⟨gb155, 3, none⟩ = some (.int .i64 a0_3) := (blk_cell BK155.out 3).trans rfl
      have hfz33_0 := blk_frozen BK155.out 0
      have hfz33_1 := blk_frozen BK155.out 1
      have hfz33_2 := blk_frozen BK155.out 2
      have hfz33_3 := blk_frozen BK155.out 3
      go_wp2
      go_ret
      exact ⟨by first | rfl | (simp [errW_none, errW_some] <;> rfl) | (simp [*, errW_none, errW_some] <;> rfl), by repeat (first | (with_reducible first | exact HB.out | apply below_alloc | apply pw_below_drewN | apply below_drew1 | refine below_set ?_ GE155.out) | exact HB.out)⟩
end Go.Proofs.YtemgofomhjabpaaGreatDoor.Core
namespace Go.Proofs.YtemgofomhjabpaaGreatDoor.Core
open Go.RowKit Go.Proofs.YtemgofomhjabpaaGreatDoorW.PrintWords Go.Proofs.YtemgofomhjabpaaGreatDoorW.PrintLast Go.Proofs.YtemgofomhjabpaaGreatDoorW.PrintMore
attribute [local go_sem] max2_int min2_int max_two min_two max_three min_three max_four min_four   -- for this text's walks alone
set_option linter.unusedVariables false
set_option linter.unusedSimpArgs false
def spec_FieldText.l0 : Nat → ByteArray → List (S38) → Int → Int → Option (ByteArray)
 | 0, _, _, _, _ => none
 | k + 1, x3, x6, x7, x8 => if x8 < x7 then (if 0 ≤ x8 then (if x8 < (x6.length : Int) then (if x8 > 0 then (if x3.size + 1 ≤ 9223372036854775807 then ((spec_ItemText.f k ((rd_T38 x6 x8).f0) ((rd_T38 x6 x8).f1) ((rd_T38 x6 x8).f2) ((rd_T38 x6 x8).f3)).bind fun t163 => (if (x3 ++ (⟨#[44]⟩ : ByteArray)).size + t163.size ≤ 9223372036854775807 then (spec_FieldText.l0 k ((x3 ++ (⟨#[44]⟩ : ByteArray)) ++ t163) x6 x7 (wrap64 (x8 + 1))) else (none))) else (none)) else ((spec_ItemText.f k ((rd_T38 x6 x8).f0) ((rd_T38 x6 x8).f1) ((rd_T38 x6 x8).f2) ((rd_T38 x6 x8).f3)).bind fun t164 => (if x3.size + t164.size ≤ 9223372036854775807 then (spec_FieldText.l0 k (x3 ++ t164) x6 x7 (wrap64 (x8 + 1))) else (none)))) else (none)) else (none)) else (some x3)
def spec_FieldText.f (k : Nat) (l0 : List (S38)) : Option (ByteArray) := spec_FieldText.l0 k (⟨#[]⟩ : ByteArray) l0 (l0.length : Int) 0
set_option maxHeartbeats 8000000 in
set_option maxRecDepth 100000 in
theorem spec_FieldText.calls (k : Nat) (A0 : Option Addr) (c0 : Nat) (l0 : List (S38)) (r : ByteArray) (w : World) (hr0 : Kd.C k38 w A0 l0.length l0) (hc0 : l0.length ≤ c0) (h : spec_FieldText.f k l0 = some r) :
  Calls Tryz.prog 16 #[.slice A0 l0.length c0] w fun e w' => e = .returned (.string r) ∧ Below w.heap.size w w' := by
 have hu38 := Tryz.underlying38
 have HR0 := Aside0.mk hr0
 have HC0 := Aside0.mk hc0
 clear hr0 hc0
 have HB := Aside0.mk (Below.refl w.heap.size w)
 have H : (spec_FieldText.l0 k (⟨#[]⟩ : ByteArray) l0 (l0.length : Int) 0) = some r := h
 clear h
 have H' := Aside0.mk H
 clear H
 go_enter Tryz.func16, Tryz.ntmps16
 go_wp2
 go_loopg [3, 8] k (fun kq v3 v8 w' => ∃ (x3_1 : ByteArray) (x8_1 : Int), v3 = .string x3_1 ∧ v8 = .int .i64 x8_1 ∧ Aside0 (spec_FieldText.l0 kq x3_1 l0 (l0.length : Int) x8_1 = some r) ∧ Aside0 (kq ≤ k) ∧ Aside0 (Below w.heap.size w w'))
 case atStart => exact ⟨((⟨#[]⟩ : ByteArray)), (0), (by first | rfl | (simp; done) | (simp [*]; done)), (by first | rfl | (simp; done) | (simp [*]; done)), H', ⟨Nat.le_refl _⟩, ⟨by repeat (first | (with_reducible first | exact HB.out | apply below_alloc | apply pw_below_drewN | apply below_drew1) | exact HB.out)⟩⟩
 case round =>
  clear H'
  try clear c1
  obtain ⟨x3_1, x8_1, rfl, rfl, HA, HK1, HB⟩ := hrel
  cases gk with
  | zero => exact absurd HA.out (by simp [spec_FieldText.l0])
  | succ k1 =>
   have H := HA.out
   clear HA
   simp only [spec_FieldText.l0] at H
   by_cases c2 : x8_1 < (l0.length : Int)
   ·rw [if_pos c2] at H
    have c2b0 : decide (x8_1 < (l0.length : Int)) = true := decide_eq_true c2
    clear c2
    by_cases c3 : 0 ≤ x8_1
    ·rw [if_pos c3] at H
     have c3b0 : decide (0 ≤ x8_1) = true := decide_eq_true c3
     clear c3
     by_cases c4 : x8_1 < (l0.length : Int)
     ·rw [if_pos c4] at H
      have c4b0 : decide (x8_1 < (l0.length : Int)) = true := decide_eq_true c4
      clear c4
      by_cases c5 : x8_1 > 0
      ·rw [if_pos c5] at H
       have c5b0 : decide (0 < x8_1) = true := decide_eq_true c5
       clear c5
       by_cases c6 : x3_1.size + 1 ≤ 9223372036854775807
       ·rw [if_pos c6] at H
        have c6b0 := eq_true c6
        have c6b1 : decide (x3_1.size + 1 ≤ 9223372036854775807) = true := decide_eq_true c6
        try have c6b2 : (9223372036854775807 < x3_1.size + 1) = False := eq_false (Nat.not_lt.2 c6)
        replace H := Option.bind_eq_some_iff.mp H
        obtain ⟨t163, A70, H⟩ := H
        replace H : (if (x3_1 ++ (⟨#[44]⟩ : ByteArray)).size + t163.size ≤ 9223372036854775807 then (spec_FieldText.l0 k1 ((x3_1 ++ (⟨#[44]⟩ : ByteArray)) ++ t163) l0 (l0.length : Int) (wrap64 (x8_1 + 1))) else (none)) = some r := H
        have A7 := Aside0.mk A70
        clear A70
        by_cases c8 : (x3_1 ++ (⟨#[44]⟩ : ByteArray)).size + t163.size ≤ 9223372036854775807
        ·rw [if_pos c8] at H
         have c8b0 := eq_true c8
         have c8b1 : decide ((x3_1 ++ (⟨#[44]⟩ : ByteArray)).size + t163.size ≤ 9223372036854775807) = true := decide_eq_true c8
         try have c8b2 : (9223372036854775807 < (x3_1 ++ (⟨#[44]⟩ : ByteArray)).size + t163.size) = False := eq_false (Nat.not_lt.2 c8)
         (try have c8b3 : (9223372036854775807 < (x3_1.size + 1) + t163.size) = False := eq_false (Nat.not_lt.2 (by have h_ := c8; (try simp only [ByteArray.size_append] at h_); exact h_)))
         have H' := Aside0.mk H
         clear H
         have p161 : 0 ≤ (x8_1 : Int) := of_decide_eq_true (by first | (with_reducible assumption) | assumption)
         have q161 : x8_1 < (l0.length : Int) := of_decide_eq_true (by first | (with_reducible assumption) | assumption)
         obtain ⟨ad161, e161, hx161_0, hx161_1, hx161_2, hx161_3⟩ := at_T38 HR0.out x8_1 p161 q161
         cases e161
         replace hx161_0 := (HB.out.cell (World.block_lt_of_cell? w _ hx161_0)).trans hx161_0
         replace hx161_1 := (HB.out.cell (World.block_lt_of_cell? w _ hx161_1)).trans hx161_1
         replace hx161_2 := (HB.out.cell (World.block_lt_of_cell? w _ hx161_2)).trans hx161_2
         replace hx161_3 := (HB.out.cell (World.block_lt_of_cell? w _ hx161_3)).trans hx161_3
         replace p161 := eq_true p161
         replace q161 := eq_true q161
         go_wp2_with (first | ((with_reducible refine gate_dst (N := 5) rfl ?_); refine box_event ?hg (N := 5) ?hd (cs := #[.bool false, .int .i64 0, .int .i64 0, .int .i64 0]) (t := 38) ?hr ?_; (case hd => rfl); (case hg => rfl); (case hr => first | (go_simp; done) | (go_simp; rfl)); intro gb162 hg w9 hbox hb; have n0_ := Aside0.mk (below_step (by repeat (first | (with_reducible first | exact HB.out | apply below_alloc | apply pw_below_drewN | apply below_drew1) | exact HB.out)) hb); have n1_ := Aside0.mk (hbox); have n2_ := Aside0.mk ((by rw [hg]; exact (below_size (by repeat (first | (with_reducible first | exact HB.out | apply below_alloc | apply pw_below_drewN | apply below_drew1) | exact HB.out))) : w.heap.size ≤ gb162)); have n3_ := Aside0.mk ((by rw [hg]; exact (below_size (by repeat (first | (with_reducible first | exact HB.out | apply below_alloc | apply pw_below_drewN | apply below_drew1) | exact HB.out))) : w.heap.size ≤ gb162)); clear HB; have HB := n0_; have BK162 := n1_; have GW162 := n2_; have GE162 := n3_; clear n0_ n1_ n2_ n3_; clear hb hbox hg; have hcz10_0 : w9.cell? ⟨gb162, 0, none⟩ = some (.bool false) := (blk_cell BK162.out 0).trans rfl; have hcz10_1 : w9.cell? ⟨gb162, 1, none⟩ = some (.int .i64 0) := (blk_cell BK162.out 1).trans rfl; have hcz10_2 : w9.cell? ⟨gb162, 2, none⟩ = some (.int .i64 0) := (blk_cell BK162.out 2).trans rfl; have hcz10_3 : w9.cell? ⟨gb162, 3, none⟩ = some (.int .i64 0) := (blk_cell BK162.out 3).trans rfl; have hfz10_0 := blk_frozen BK162.out 0; have hfz10_1 := blk_frozen BK162.out 1; have hfz10_2 := blk_frozen BK162.out 2; have hfz10_3 := blk_frozen BK162.out 3) | ((with_reducible refine gate_callee (f := 34) rfl ?_); refine goesL_ (some 19) rfl rfl Tryz.func34 (by kernel_rfl) rfl #[.agg #[.bool ((rd_T38 l0 x8_1).f0), .int .i64 ((rd_T38 l0 x8_1).f1), .int .i64 ((rd_T38 l0 x8_1).f2), .int .i64 ((rd_T38 l0 x8_1).f3)]] rfl (by (try simp only [List.map_toArray, List.map_cons, List.map_nil]); first | done | rfl | (simp only [List.length_drop, List.length_take]; rfl)) ?_; (with_reducible refine (spec_ItemText.calls k1 ((rd_T38 l0 x8_1).f0) ((rd_T38 l0 x8_1).f1) ((rd_T38 l0 x8_1).f2) ((rd_T38 l0 x8_1).f3) t163 _ A7.out).mono ?_); rintro e w11 ⟨rfl, hb⟩; refine ⟨_, rfl, ?_⟩; have n0_ := Aside0.mk (blk_below (g := gb162) (o := .cells #[.bool ((rd_T38 l0 x8_1).f0), .int .i64 ((rd_T38 l0 x8_1).f1), .int .i64 ((rd_T38 l0 x8_1).f2), .int .i64 ((rd_T38 l0 x8_1).f3)] 38 (0, 0)) (by (with_reducible repeat (first | refine blk_drewN ?_ _ | refine blk_drew ?_ | refine blk_alloc ?_ _)); refine blk_put (cs := #[.bool ((rd_T38 l0 x8_1).f0), .int .i64 ((rd_T38 l0 x8_1).f1), .int .i64 ((rd_T38 l0 x8_1).f2), .int .i64 0]) ?_ 3 _ rfl; (with_reducible repeat (first | refine blk_drewN ?_ _ | refine blk_drew ?_ | refine blk_alloc ?_ _)); refine blk_put (cs := #[.bool ((rd_T38 l0 x8_1).f0), .int .i64 ((rd_T38 l0 x8_1).f1), .int .i64 0, .int .i64 0]) ?_ 2 _ rfl; (with_reducible repeat (first | refine blk_drewN ?_ _ | refine blk_drew ?_ | refine blk_alloc ?_ _)); refine blk_put (cs := #[.bool ((rd_T38 l0 x8_1).f0), .int .i64 0, .int .i64 0, .int .i64 0]) ?_ 1 _ rfl; (with_reducible repeat (first | refine blk_drewN ?_ _ | refine blk_drew ?_ | refine blk_alloc ?_ _)); refine blk_put (cs := #[.bool false, .int .i64 0, .int .i64 0, .int .i64 0]) ?_ 0 _ rfl; (with_reducible repeat (first | refine blk_drewN ?_ _ | refine blk_drew ?_ | refine blk_alloc ?_ _)); exact BK162.out) hb); have n1_ := Aside0.mk (below_step (by repeat (first | (with_reducible first | exact HB.out | apply below_alloc | apply pw_below_drewN | apply below_drew1 | refine below_set ?_ GE162.out) | exact HB.out)) hb); clear BK162; clear HB; have BK162 := n0_; have HB := n1_; clear n0_ n1_; (try clear hb); (try clear hb2); (try clear hk); (try clear hi)))
         go_roundg k1
         case measure => have := HK1.out; omega
         case rel => exact ⟨((x3_1 ++ (⟨#[44]⟩ : ByteArray)) ++ t163), (wrap64 (x8_1 + 1)), (by first | rfl | (simp; done) | (simp [*]; done)), (by first | rfl | (simp; done) | (simp [*]; done)), H', ⟨by have := HK1.out; omega⟩, ⟨by repeat (first | (with_reducible first | exact HB.out | apply below_alloc | apply pw_below_drewN | apply below_drew1 | refine below_set ?_ GE162.out) | exact HB.out)⟩⟩
        ·rw [if_neg c8] at H
         exact absurd H (by simp)
       ·rw [if_neg c6] at H
        exact absurd H (by simp)
      ·rw [if_neg c5] at H
       have c5b0 : decide (0 < x8_1) = false := decide_eq_false c5
       clear c5
       replace H := Option.bind_eq_some_iff.mp H
       obtain ⟨t164, A120, H⟩ := H
       replace H : (if x3_1.size + t164.size ≤ 9223372036854775807 then (spec_FieldText.l0 k1 (x3_1 ++ t164) l0 (l0.length : Int) (wrap64 (x8_1 + 1))) else (none)) = some r := H
       have A12 := Aside0.mk A120
       clear A120
       by_cases c13 : x3_1.size + t164.size ≤ 9223372036854775807
       ·rw [if_pos c13] at H
        have c13b0 := eq_true c13
        have c13b1 : decide (x3_1.size + t164.size ≤ 9223372036854775807) = true := decide_eq_true c13
        try have c13b2 : (9223372036854775807 < x3_1.size + t164.size) = False := eq_false (Nat.not_lt.2 c13)
        have H' := Aside0.mk H
        clear H
        have p161 : 0 ≤ (x8_1 : Int) := of_decide_eq_true (by first | (with_reducible assumption) | assumption)
        have q161 : x8_1 < (l0.length : Int) := of_decide_eq_true (by first | (with_reducible assumption) | assumption)
        obtain ⟨ad161, e161, hx161_0, hx161_1, hx161_2, hx161_3⟩ := at_T38 HR0.out x8_1 p161 q161
        cases e161
        replace hx161_0 := (HB.out.cell (World.block_lt_of_cell? w _ hx161_0)).trans hx161_0
        replace hx161_1 := (HB.out.cell (World.block_lt_of_cell? w _ hx161_1)).trans hx161_1
        replace hx161_2 := (HB.out.cell (World.block_lt_of_cell? w _ hx161_2)).trans hx161_2
        replace hx161_3 := (HB.out.cell (World.block_lt_of_cell? w _ hx161_3)).trans hx161_3
        replace p161 := eq_true p161
        replace q161 := eq_true q161
        go_wp2_with (first | ((with_reducible refine gate_dst (N := 5) rfl ?_); refine box_event ?hg (N := 5) ?hd (cs := #[.bool false, .int .i64 0, .int .i64 0, .int .i64 0]) (t := 38) ?hr ?_; (case hd => rfl); (case hg => rfl); (case hr => first | (go_simp; done) | (go_simp; rfl)); intro gb162 hg w14 hbox hb; have n0_ := Aside0.mk (below_step (by repeat (first | (with_reducible first | exact HB.out | apply below_alloc | apply pw_below_drewN | apply below_drew1) | exact HB.out)) hb); have n1_ := Aside0.mk (hbox); have n2_ := Aside0.mk ((by rw [hg]; exact (below_size (by repeat (first | (with_reducible first | exact HB.out | apply below_alloc | apply pw_below_drewN | apply below_drew1) | exact HB.out))) : w.heap.size ≤ gb162)); have n3_ := Aside0.mk ((by rw [hg]; exact (below_size (by repeat (first | (with_reducible first | exact HB.out | apply below_alloc | apply pw_below_drewN | apply below_drew1) | exact HB.out))) : w.heap.size ≤ gb162)); clear HB; have HB := n0_; have BK162 := n1_; have GW162 := n2_; have GE162 := n3_; clear n0_ n1_ n2_ n3_; clear hb hbox hg; have hcz15_0 : w14.cell? ⟨gb162, 0, none⟩ = some (.bool false) := (blk_cell BK162.out 0).trans rfl; have hcz15_1 : w14.cell? ⟨gb162, 1, none⟩ = some (.int .i64 0) := (blk_cell BK162.out 1).trans rfl; have hcz15_2 : w14.cell? ⟨gb162, 2, none⟩ = some (.int .i64 0) := (blk_cell BK162.out 2).trans rfl; have hcz15_3 : w14.cell? ⟨gb162, 3, none⟩ = some (.int .i64 0) := (blk_cell BK162.out 3).trans rfl; have hfz15_0 := blk_frozen BK162.out 0; have hfz15_1 := blk_frozen BK162.out 1; have hfz15_2 := blk_frozen BK162.out 2; have hfz15_3 := blk_frozen BK162.out 3) | ((with_reducible refine gate_callee (f := 34) rfl ?_); refine goesL_ (some 19) rfl rfl Tryz.func34 (by kernel_rfl) rfl #[.agg #[.bool ((rd_T38 l0 x8_1).f0), .int .i64 ((rd_T38 l0 x8_1).f1), .int .i64 ((rd_T38 l0 x8_1).f2), .int .i64 ((rd_T38 l0 x8_1).f3)]] rfl (by (try simp only [List.map_toArray, List.map_cons, List.map_nil]); first | done | rfl | (simp only [List.length_drop, List.length_take]; rfl)) ?_; (with_reducible refine (spec_ItemText.calls k1 ((rd_T38 l0 x8_1).f0) ((rd_T38 l0 x8_1).f1) ((rd_T38 l0 x8_1).f2) ((rd_T38 l0 x8_1).f3) t164 _ A12.out).mono ?_); rintro e w16 ⟨rfl, hb⟩; refine ⟨_, rfl, ?_⟩; have n0_ := Aside0.mk (blk_below (g := gb162) (o := .cells #[.bool ((rd_T38 l0 x8_1).f0), .int .i64 ((rd_T38 l0 x8_1).f1), .int .i64 ((rd_T38 l0 x8_1).f2), .int .i64 ((rd_T38 l0 x8_1).f3)] 38 (0, 0)) (by (with_reducible repeat (first | refine blk_drewN ?_ _ | refine blk_drew ?_ | refine blk_alloc ?_ _)); refine blk_put (cs := #[.bool ((rd_T38 l0 x8_1).f0), .int .i64 ((rd_T38 l0 x8_1).f1), .int .i64 ((rd_T38 l0 x8_1).f2), .int .i64 0]) ?_ 3 _ rfl; (with_reducible repeat (first | refine blk_drewN ?_ _ | refine blk_drew ?_ | refine blk_alloc ?_ _)); refine blk_put (cs := #[.bool ((rd_T38 l0 x8_1).f0), .int .i64 ((rd_T38 l0 x8_1).f1), .int .i64 0, .int .i64 0]) ?_ 2 _ rfl; (with_reducible repeat (first | refine blk_drewN ?_ _ | refine blk_drew ?_ | refine blk_alloc ?_ _)); refine blk_put (cs := #[.bool ((rd_T38 l0 x8_1).f0), .int .i64 0, .int .i64 0, .int .i64 0]) ?_ 1 _ rfl; (with_reducible repeat (first | refine blk_drewN ?_ _ | refine blk_drew ?_ | refine blk_alloc ?_ _)); refine blk_put (cs := #[.bool false, .int .i64 0, .int .i64 0, .int .i64 0]) ?_ 0 _ rfl; (with_reducible repeat (first | refine blk_drewN ?_ _ | refine blk_drew ?_ | refine blk_alloc ?_ _)); exact BK162.out) hb); have n1_ := Aside0.mk (below_step (by repeat (first | (with_reducible first | exact HB.out | apply below_alloc | apply pw_below_drewN | apply below_drew1 | refine below_set ?_ GE162.out) | exact HB.out)) hb); clear BK162; clear HB; have BK162 := n0_; have HB := n1_; clear n0_ n1_; (try clear hb); (try clear hb2); (try clear hk); (try clear hi)))
        go_roundg k1
        case measure => have := HK1.out; omega
        case rel => exact ⟨(x3_1 ++ t164), (wrap64 (x8_1 + 1)), (by first | rfl | (simp; done) | (simp [*]; done)), (by first | rfl | (simp; done) | (simp [*]; done)), H', ⟨by have := HK1.out; omega⟩, ⟨by repeat (first | (with_reducible first | exact HB.out | apply below_alloc | apply pw_below_drewN | apply below_drew1 | refine below_set ?_ GE162.out) | exact HB.out)⟩⟩
       ·rw [if_neg c13] at H
        exact absurd H (by simp)
     ·rw [if_neg c4] at H
      exact absurd H (by simp)
    ·rw [if_neg c3] at H
     exact absurd H (by simp)
   ·rw [if_neg c2] at H
    have c2b0 : decide (x8_1 < (l0.length : Int)) = false := decide_eq_false c2
    clear c2
    obtain rfl := Option.some.inj H
    go_wp2
    go_ret
    exact ⟨by first | rfl | (simp [errW_none, errW_some] <;> rfl) | (simp [*, errW_none, errW_some] <;> rfl), by repeat (first | (with_reducible first | exact HB.out | apply below_alloc | apply pw_below_drewN | apply below_drew1) | exact HB.out)⟩
end Go.Proofs.YtemgofomhjabpaaGreatDoor.Core
