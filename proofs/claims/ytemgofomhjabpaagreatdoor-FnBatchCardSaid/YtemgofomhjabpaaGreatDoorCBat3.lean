/- Contracts and plain lemmas of this seat (part 3), merged by wip/merge2.py; what is proved stands in the claim's last text. -/
import Derived.Test.YtemgofomhjabpaaGreatDoorCBat1
import Derived.Test.YtemgofomhjabpaaGreatDoorCBat2
import Derived.Test.YtemgofomhjabpaaGreatDoorProg
import Derived.WalkKit
import Derived.KernelRfl
import Derived.RowKit3
import Derived.WalkSpells
import Derived.WalkLawsBesides
import Derived.Below
import Derived.Outline
import Derived.Deep.QuietTactic
import Derived.BigQuiet
import Derived.Laws.Rows
import Derived.Lib.Strings
namespace Go.Proofs.YtemgofomhjabpaaGreatDoor.Core
open Go.RowKit Go.Proofs.YtemgofomhjabpaaGreatDoorW.PrintWords Go.Proofs.YtemgofomhjabpaaGreatDoorW.PrintLast Go.Proofs.YtemgofomhjabpaaGreatDoorW.PrintMore
attribute [local go_sem] max2_int min2_int max_two min_two max_three min_three max_four min_four   -- for this text's walks alone
set_option linter.unusedVariables false
set_option linter.unusedSimpArgs false
def spec_Fits.f (k : Nat) (l0_0 : List (List (S38))) (a0_1 : Bool) (a1_0 : Int) (a1_1 : Int) (a1_2 : Int) (a1_3 : Int) (a1_4 : Int) (a1_5 : Int) : Option (Bool) := (spec_DayFits.f k l0_0 a0_1 a1_0 a1_1 a1_2 a1_3 a1_4 a1_5).bind fun t184 => (if t184 = true then (if 2 < (l0_0.length : Int) then ((spec_Has.f k 2 (rd_L5 l0_0 2) a1_3).bind fun t186 => (if t186 = true then (if 1 < (l0_0.length : Int) then ((spec_Has.f k 1 (rd_L5 l0_0 1) a1_4).bind fun t188 => (if t188 = true then (if 0 < (l0_0.length : Int) then ((spec_Has.f k 0 (rd_L5 l0_0 0) a1_5).bind fun t190 => (some t190)) else (none)) else (some false))) else (none)) else (some false))) else (none)) else (some false))
def spec_Fits.T1 : Bool × List (List Nat × List Nat) := (true, [([], []), ([], []), ([0, 1], [0, 1]), ([2, 2], [2]), ([3], [3]), ([4, 3], [3, 4]), ([5, 3], [3, 5]), ([6, 3], [3, 6]), ([3], [3]), ([8, 3], [3, 8]), ([7, 9, 3, 3], [3, 7, 9]), ([3, 10], [3, 10]), ([11, 10], [11]), ([12], [12]), ([13, 12], [12, 13]), ([14, 12], [12, 14]), ([15, 12], [12, 15]), ([12], [12]), ([17, 12], [12, 17]), ([16, 18, 12, 12], [12, 16, 18]), ([12, 19], [12, 19]), ([20, 19], [20]), ([21], [21]), ([22, 21], [21, 22]), ([23, 21], [21, 23]), ([24, 21], [21, 24]), ([21], [21]), ([26, 21], [21, 26]), ([25, 27, 21, 21], [21, 25, 27]), ([21, 28], [21, 28]), ([29, 28, 0, 1, 2, 3, 4, 5, 6, 7, 8, 9, 10, 11, 12, 13, 14, 15, 16, 17, 18, 19, 20, 21, 22, 23, 24, 25, 26, 27, 28, 29], [29])])
def spec_Fits.B1 : List Nat := [0, 0, 3, 7, 15, 31, 63, 127, 15, 271, 1023, 2047, 4095, 8191, 16383, 32767, 65535, 8191, 139263, 524287, 1048575, 2097151, 4194303, 8388607, 16777215, 33554431, 4194303, 71303167, 268435455, 536870911, 1073741823]
theorem spec_Fits.tab1 : rtab .any (opsOf Tryz.f18 1) = spec_Fits.T1 := by kernel_rfl
theorem spec_Fits.bits1 : waitsOk spec_Fits.T1.2 spec_Fits.B1 = true := by kernel_rfl
set_option maxHeartbeats 8000000 in
set_option maxRecDepth 100000 in
theorem spec_Fits.calls (k : Nat) (A0_0 : Option Addr) (c0_0 : Nat) (l0_0 : List (List (S38))) (a0_1 : Bool) (a1_0 : Int) (a1_1 : Int) (a1_2 : Int) (a1_3 : Int) (a1_4 : Int) (a1_5 : Int) (r : Bool) (w : World) (hr0_0 : Kd.C (Kd.slice 38 k38) w A0_0 l0_0.length l0_0) (hc0_0 : l0_0.length ≤ c0_0) (h : spec_Fits.f k l0_0 a0_1 a1_0 a1_1 a1_2 a1_3 a1_4 a1_5 = some r) :
  Calls Tryz.prog 18 #[.agg #[.slice A0_0 l0_0.length c0_0, .bool a0_1], .agg #[.int .i64 a1_0, .int .i64 a1_1, .int .i64 a1_2, .int .i64 a1_3, .int .i64 a1_4, .int .i64 a1_5]] w fun e w' => e = .returned (.bool r) ∧ Below w.heap.size w w' := by
 have hu30 := Tryz.underlying30
 have hu43 := Tryz.underlying43
 have HR0_0 := Aside0.mk hr0_0
 have HC0_0 := Aside0.mk hc0_0
 clear hr0_0 hc0_0
 have HB := Aside0.mk (Below.refl w.heap.size w)
 have H : ((spec_DayFits.f k l0_0 a0_1 a1_0 a1_1 a1_2 a1_3 a1_4 a1_5).bind fun t184 => (if t184 = true then (if 2 < (l0_0.length : Int) then ((spec_Has.f k 2 (rd_L5 l0_0 2) a1_3).bind fun t186 => (if t186 = true then (if 1 < (l0_0.length : Int) then ((spec_Has.f k 1 (rd_L5 l0_0 1) a1_4).bind fun t188 => (if t188 = true then (if 0 < (l0_0.length : Int) then ((spec_Has.f k 0 (rd_L5 l0_0 0) a1_5).bind fun t190 => (some t190)) else (none)) else (some false))) else (none)) else (some false))) else (none)) else (some false))) = some r := h
 clear h
 replace H := Option.bind_eq_some_iff.mp H
 obtain ⟨t184, A30, H⟩ := H
 replace H : (if t184 = true then (if 2 < (l0_0.length : Int) then ((spec_Has.f k 2 (rd_L5 l0_0 2) a1_3).bind fun t186 => (if t186 = true then (if 1 < (l0_0.length : Int) then ((spec_Has.f k 1 (rd_L5 l0_0 1) a1_4).bind fun t188 => (if t188 = true then (if 0 < (l0_0.length : Int) then ((spec_Has.f k 0 (rd_L5 l0_0 0) a1_5).bind fun t190 => (some t190)) else (none)) else (some false))) else (none)) else (some false))) else (none)) else (some false)) = some r := H
 have A3 := Aside0.mk A30
 clear A30
 by_cases c4 : t184 = true
 ·subst c4
  have H1 : (if 2 < (l0_0.length : Int) then ((spec_Has.f k 2 (rd_L5 l0_0 2) a1_3).bind fun t186 => (if t186 = true then (if 1 < (l0_0.length : Int) then ((spec_Has.f k 1 (rd_L5 l0_0 1) a1_4).bind fun t188 => (if t188 = true then (if 0 < (l0_0.length : Int) then ((spec_Has.f k 0 (rd_L5 l0_0 0) a1_5).bind fun t190 => (some t190)) else (none)) else (some false))) else (none)) else (some false))) else (none)) = some r := by rw [if_pos rfl] at H; exact H
  clear H
  have H := H1
  clear H1
  by_cases c5 : 2 < (l0_0.length : Int)
  ·rw [if_pos c5] at H
   have c5b0 : decide (2 < (l0_0.length : Int)) = true := decide_eq_true c5
   have c5b1 : decide (2 < l0_0.length) = true := decide_eq_true (by omega)
   clear c5
   replace H := Option.bind_eq_some_iff.mp H
   obtain ⟨t186, A60, H⟩ := H
   replace H : (if t186 = true then (if 1 < (l0_0.length : Int) then ((spec_Has.f k 1 (rd_L5 l0_0 1) a1_4).bind fun t188 => (if t188 = true then (if 0 < (l0_0.length : Int) then ((spec_Has.f k 0 (rd_L5 l0_0 0) a1_5).bind fun t190 => (some t190)) else (none)) else (some false))) else (none)) else (some false)) = some r := H
   have A6 := Aside0.mk A60
   clear A60
   by_cases c7 : t186 = true
   ·subst c7
    have H1 : (if 1 < (l0_0.length : Int) then ((spec_Has.f k 1 (rd_L5 l0_0 1) a1_4).bind fun t188 => (if t188 = true then (if 0 < (l0_0.length : Int) then ((spec_Has.f k 0 (rd_L5 l0_0 0) a1_5).bind fun t190 => (some t190)) else (none)) else (some false))) else (none)) = some r := by rw [if_pos rfl] at H; exact H
    clear H
    have H := H1
    clear H1
    by_cases c8 : 1 < (l0_0.length : Int)
    ·rw [if_pos c8] at H
     have c8b0 : decide (1 < (l0_0.length : Int)) = true := decide_eq_true c8
     have c8b1 : decide (1 < l0_0.length) = true := decide_eq_true (by omega)
     clear c8
     replace H := Option.bind_eq_some_iff.mp H
     obtain ⟨t188, A90, H⟩ := H
     replace H : (if t188 = true then (if 0 < (l0_0.length : Int) then ((spec_Has.f k 0 (rd_L5 l0_0 0) a1_5).bind fun t190 => (some t190)) else (none)) else (some false)) = some r := H
     have A9 := Aside0.mk A90
     clear A90
     by_cases c10 : t188 = true
     ·subst c10
      have H1 : (if 0 < (l0_0.length : Int) then ((spec_Has.f k 0 (rd_L5 l0_0 0) a1_5).bind fun t190 => (some t190)) else (none)) = some r := by rw [if_pos rfl] at H; exact H
      clear H
      have H := H1
      clear H1
      by_cases c11 : 0 < (l0_0.length : Int)
      ·rw [if_pos c11] at H
       have c11b0 : decide (0 < (l0_0.length : Int)) = true := decide_eq_true c11
       have c11b1 : decide (0 < l0_0.length) = true := decide_eq_true (by omega)
       clear c11
       replace H := Option.bind_eq_some_iff.mp H
       obtain ⟨t190, A120, H⟩ := H
       replace H : (some t190) = some r := H
       have A12 := Aside0.mk A120
       clear A120
       obtain rfl := Option.some.inj H
       go_enter Tryz.func18, Tryz.ntmps18
       try go_wp2_with (first | ((with_reducible refine gate_dst (N := 2) rfl ?_); refine box_event ?hg (N := 2) ?hd (cs := #[.slice A0_0 l0_0.length c0_0, .bool a0_1]) (t := 30) ?hr ?_; (case hd => rfl); (case hg => rfl); (case hr => first | (go_simp; done) | (go_simp; rfl)); intro gb182 hg w13 hbox hb; have n0_ := Aside0.mk (below_step (by repeat (first | (with_reducible first | exact HB.out | apply below_alloc | apply pw_below_drewN | apply below_drew1) | exact HB.out)) hb); have n1_ := Aside0.mk (hbox); have n2_ := Aside0.mk ((by rw [hg]; exact (below_size (by repeat (first | (with_reducible first | exact HB.out | apply below_alloc | apply pw_below_drewN | apply below_drew1) | exact HB.out))) : w.heap.size ≤ gb182)); have n3_ := Aside0.mk ((by rw [hg]; exact (below_size (by repeat (first | (with_reducible first | exact HB.out | apply below_alloc | apply pw_below_drewN | apply below_drew1) | exact HB.out))) : w.heap.size ≤ gb182)); clear HB; have HB := n0_; have BK182 := n1_; have GW182 := n2_; have GE182 := n3_; clear n0_ n1_ n2_ n3_; clear hb hbox hg) | ((with_reducible refine gate_dst (N := 3) rfl ?_); refine box_event ?hg (N := 3) ?hd (cs := #[.int .i64 a1_0, .int .i64 a1_1, .int .i64 a1_2, .int .i64 a1_3, .int .i64 a1_4, .int .i64 a1_5]) (t := 43) ?hr ?_; (case hd => rfl); (case hg => rfl); (case hr => first | (go_simp; done) | (go_simp; rfl)); intro gb183 hg w14 hbox hb; have n0_ := Aside0.mk (blk_below (g := gb182) (o := .cells #[.slice A0_0 l0_0.length c0_0, .bool a0_1] 30 (0, 0)) (by (with_reducible repeat (first | refine blk_drewN ?_ _ | refine blk_drew ?_ | refine blk_alloc ?_ _)); exact BK182.out) hb); have n1_ := Aside0.mk (below_step (by repeat (first | (with_reducible first | exact HB.out | apply below_alloc | apply pw_below_drewN | apply below_drew1 | refine below_set ?_ GE182.out) | exact HB.out)) hb); have n2_ := Aside0.mk (hbox); have n3_ := Aside0.mk ((by rw [hg]; exact (below_size (by repeat (first | (with_reducible first | exact HB.out | apply below_alloc | apply pw_below_drewN | apply below_drew1 | refine below_set ?_ GE182.out) | exact HB.out))) : w.heap.size ≤ gb183)); have n4_ := Aside0.mk ((by rw [hg]; exact (below_size (by repeat (first | (with_reducible first | exact HB.out | apply below_alloc | apply pw_below_drewN | apply below_drew1 | refine below_set ?_ GE182.out) | exact HB.out))) : w.heap.size ≤ gb183)); have n5_ := Aside0.mk ((by rw [hg]; exact Nat.ne_of_lt (blk_lt (g := gb182) (o := .cells #[.slice A0_0 l0_0.length c0_0, .bool a0_1] 30 (0, 0)) (by (with_reducible repeat (first | refine blk_drewN ?_ _ | refine blk_drew ?_ | refine blk_alloc ?_ _)); exact BK182.out)) : gb182 ≠ gb183)); have n6_ := Aside0.mk ((by rw [hg]; exact Nat.ne_of_gt (blk_lt (g := gb182) (o := .cells #[.slice A0_0 l0_0.length c0_0, .bool a0_1] 30 (0, 0)) (by (with_reducible repeat (first | refine blk_drewN ?_ _ | refine blk_drew ?_ | refine blk_alloc ?_ _)); exact BK182.out)) : gb183 ≠ gb182)); clear BK182; clear HB; have BK182 := n0_; have HB := n1_; have BK183 := n2_; have GW183 := n3_; have GE183 := n4_; have NB182_183 := n5_; have NB183_182 := n6_; clear n0_ n1_ n2_ n3_ n4_ n5_ n6_; clear hb hbox hg))
       have n0_ := Aside0.mk (blk_drew BK182.out)
       have n1_ := Aside0.mk (blk_drew BK183.out)
       have n2_ := Aside0.mk (below_drew1 HB.out)
       clear BK182
       clear BK183
       clear HB
       have BK182 := n0_
       have BK183 := n1_
       have HB := n2_
       clear n0_ n1_ n2_
       have p185 : 0 ≤ (2 : Int) := (by omega)
       have q185 : 2 < (l0_0.length : Int) := of_decide_eq_true (by first | (with_reducible assumption) | assumption)
       obtain ⟨ad185, A185_0, c185_0, e185, hx185_0, hl185_0, hi185_0⟩ := at_L5 HR0_0.out 2 p185 q185
       have hw185_0 := hx185_0
       (try rw [show ((2 : Int)).toNat = 2 from rfl] at hw185_0)
       (try rw [show 2 * 1 = 2 from rfl] at hw185_0)
       (try simp only [Nat.reduceMul, Nat.reduceEqDiff, Go.Addr.add, ↓reduceIte] at hw185_0)
       cases e185
       (try simp only [show (2 : Int).toNat = 2 from rfl, Nat.reduceMul, Nat.reduceEqDiff, Go.Addr.add, ↓reduceIte] at hx185_0)
       have qi185 : (2 < l0_0.length) = True := eq_true (by omega)
       (try rw [show ((2 : Int)).toNat = 2 from rfl] at hx185_0)
       replace hx185_0 := (HB.out.cell (World.block_lt_of_cell? w _ hx185_0)).trans hx185_0
       have HR185_0 := Aside0.mk hi185_0
       have HC185_0 := Aside0.mk hl185_0
       clear hi185_0 hl185_0
       replace p185 := eq_true p185
       replace q185 := eq_true q185
       have p187 : 0 ≤ (1 : Int) := (by omega)
       have q187 : 1 < (l0_0.length : Int) := of_decide_eq_true (by first | (with_reducible assumption) | assumption)
       obtain ⟨ad187, A187_0, c187_0, e187, hx187_0, hl187_0, hi187_0⟩ := at_L5 HR0_0.out 1 p187 q187
       have hw187_0 := hx187_0
       (try rw [show ((1 : Int)).toNat = 1 from rfl] at hw187_0)
       (try rw [show 1 * 1 = 1 from rfl] at hw187_0)
       (try simp only [Nat.reduceMul, Nat.reduceEqDiff, Go.Addr.add, ↓reduceIte] at hw187_0)
       obtain rfl : ad185 = ad187 := (by injection e187)
       (try simp only [show (1 : Int).toNat = 1 from rfl, Nat.reduceMul, Nat.reduceEqDiff, Go.Addr.add, ↓reduceIte] at hx187_0)
       have qi187 : (1 < l0_0.length) = True := eq_true (by omega)
       (try rw [show ((1 : Int)).toNat = 1 from rfl] at hx187_0)
       replace hx187_0 := (HB.out.cell (World.block_lt_of_cell? w _ hx187_0)).trans hx187_0
       have HR187_0 := Aside0.mk hi187_0
       have HC187_0 := Aside0.mk hl187_0
       clear hi187_0 hl187_0
       replace p187 := eq_true p187
       replace q187 := eq_true q187
       have p189 : 0 ≤ (0 : Int) := (by omega)
       have q189 : 0 < (l0_0.length : Int) := of_decide_eq_true (by first | (with_reducible assumption) | assumption)
       obtain ⟨ad189, A189_0, c189_0, e189, hx189_0, hl189_0, hi189_0⟩ := at_L5 HR0_0.out 0 p189 q189
       have hw189_0 := hx189_0
       (try rw [show ((0 : Int)).toNat = 0 from rfl] at hw189_0)
       (try rw [show 0 * 1 = 0 from rfl] at hw189_0)
       (try rw [Addr.add_zero'] at hw189_0)
       obtain rfl : ad185 = ad189 := (by injection e189)
       have qi189 : (0 < l0_0.length) = True := eq_true (by omega)
       (try rw [show ((0 : Int)).toNat = 0 from rfl] at hx189_0)
       (try rw [Addr.add_zero'] at hx189_0)
       replace hx189_0 := (HB.out.cell (World.block_lt_of_cell? w _ hx189_0)).trans hx189_0
       have HR189_0 := Aside0.mk hi189_0
       have HC189_0 := Aside0.mk hl189_0
       clear hi189_0 hl189_0
       replace p189 := eq_true p189
       replace q189 := eq_true q189
       refine start_ (n := 31) (S := fun w' => w'.cell? ⟨gb182, 0, none⟩ = some (.slice (some ad185) l0_0.length c0_0) ∧ w'.cell? ⟨gb182, 1, none⟩ = some (.bool a0_1) ∧ w'.cell? ⟨gb183, 0, none⟩ = some (.int .i64 a1_0) ∧ w'.cell? ⟨gb183, 1, none⟩ = some (.int .i64 a1_1) ∧ w'.cell? ⟨gb183, 2, none⟩ = some (.int .i64 a1_2) ∧ w'.cell? ⟨gb183, 3, none⟩ = some (.int .i64 a1_3) ∧ w'.cell? ⟨gb183, 4, none⟩ = some (.int .i64 a1_4) ∧ w'.cell? ⟨gb183, 5, none⟩ = some (.int .i64 a1_5) ∧ w'.cell? ⟨ad185.block, ad185.off + 2, none⟩ = some (.slice A185_0 (rd_L5 l0_0 2).length c185_0) ∧ w'.cell? ⟨ad185.block, ad185.off + 1, none⟩ = some (.slice A187_0 (rd_L5 l0_0 1).length c187_0) ∧ w'.cell? ad185 = some (.slice A189_0 (rd_L5 l0_0 0).length c189_0)) (ds := []) (Ya 31 0) (by kernel_rfl) rfl rfl ⟨(blk_cell BK182.out 0).trans rfl, (blk_cell BK182.out 1).trans rfl, (blk_cell BK183.out 0).trans rfl, (blk_cell BK183.out 1).trans rfl, (blk_cell BK183.out 2).trans rfl, (blk_cell BK183.out 3).trans rfl, (blk_cell BK183.out 4).trans rfl, (blk_cell BK183.out 5).trans rfl, ((HB.out.cell (World.block_lt_of_cell? w _ hw185_0)).trans hw185_0), ((HB.out.cell (World.block_lt_of_cell? w _ hw187_0)).trans hw187_0), ((HB.out.cell (World.block_lt_of_cell? w _ hw189_0)).trans hw189_0)⟩ (fun hHeld => ?_); refine with_tabW spec_Fits.tab1 spec_Fits.bits1 (fun HT_ HW_ => ?_)
       generalize w14.drew = w15 at BK182 BK183 HB HR185_0 HR187_0 HR189_0 hx185_0 hx187_0 hx189_0 hHeld ⊢
       refine take_ (i := 0) (N := some 5) (v := ?_) (a' := ?_) (Ya 31 1) rfl rfl (take_ofW HT_.out HW_.out (by kernel_rfl)) (fun _ _ _ h => h) (Or.inl ⟨by rfl, ?_⟩) hHeld ?_ ?_
       rotate_left
       ·rintro w' ⟨s0, s1, s2, s3, s4, s5, s6, s7, s8, s9, s10⟩
        go_simp
        with_reducible rfl
       rotate_left
       ·simp only [Act.put, List.setIfInBounds_toArray, List.set_cons_zero, List.set_cons_succ, i64_w, i32_w]
        rfl
       refine take_ (i := 1) (N := some 6) (v := ?_) (a' := ?_) (Ya 31 3) rfl rfl (take_ofW HT_.out HW_.out (by kernel_rfl)) (fun _ _ _ h => h) (Or.inl ⟨by rfl, ?_⟩) hHeld ?_ ?_
       rotate_left
       ·rintro w' ⟨s0, s1, s2, s3, s4, s5, s6, s7, s8, s9, s10⟩
        go_simp
        with_reducible rfl
       rotate_left
       ·simp only [Act.put, List.setIfInBounds_toArray, List.set_cons_zero, List.set_cons_succ, i64_w, i32_w]
        rfl
       refine one_ (i := 2) (N := some 7) (Ya 31 7) rfl rfl (one_of HT_.out (by kernel_rfl)) (by decide) (fun K hK => ?_)
       refine goes_ Tryz.func35 (by kernel_rfl) rfl #[.agg #[.slice (some ad185) l0_0.length c0_0, .bool a0_1], .agg #[.int .i64 a1_0, .int .i64 a1_1, .int .i64 a1_2, .int .i64 a1_3, .int .i64 a1_4, .int .i64 a1_5]] (by rfl) rfl rfl (by (try simp only [List.map_toArray, List.map_cons, List.map_nil]); first | done | rfl | (simp only [List.length_drop, List.length_take]; rfl)) ?_
       with_reducible refine (spec_DayFits.calls k _ _ l0_0 a0_1 a1_0 a1_1 a1_2 a1_3 a1_4 a1_5 true _ ?side1 ?side2 A3.out).mono ?_
       (case side1 => repeat (first | exact (Kd.C_below HR0_0.out HB.out) | (with_reducible refine Kd.C_alloc ?_ _) | (with_reducible refine Kd.C_drewN ?_ _) | (with_reducible refine Kd.C_drew ?_)))
       (case side2 => exact HC0_0.out)
       rintro e w16 ⟨rfl, hb⟩
       refine ⟨_, rfl, ?_⟩
       have n0_ := Aside0.mk (blk_below (g := gb182) (o := .cells #[.slice (some ad185) l0_0.length c0_0, .bool a0_1] 30 (0, 0)) (by (with_reducible repeat (first | refine blk_drewN ?_ _ | refine blk_drew ?_ | refine blk_alloc ?_ _)); exact BK182.out) hb)
       have n1_ := Aside0.mk (blk_below (g := gb183) (o := .cells #[.int .i64 a1_0, .int .i64 a1_1, .int .i64 a1_2, .int .i64 a1_3, .int .i64 a1_4, .int .i64 a1_5] 43 (0, 0)) (by (with_reducible repeat (first | refine blk_drewN ?_ _ | refine blk_drew ?_ | refine blk_alloc ?_ _)); exact BK183.out) hb)
       have n2_ := Aside0.mk (below_step (by repeat (first | (with_reducible first | exact HB.out | apply below_alloc | apply pw_below_drewN | apply below_drew1 | refine below_set ?_ GE182.out | refine below_set ?_ GE183.out) | exact HB.out)) hb)
       clear BK182
       clear BK183
       clear HB
       have BK182 := n0_
       have BK183 := n1_
       have HB := n2_
       clear n0_ n1_ n2_
       (try clear hb)
       (try clear hb2)
       (try clear hk)
       (try clear hi)
       refine hK.out _ _ ⟨(blk_cell BK182.out 0).trans rfl, (blk_cell BK182.out 1).trans rfl, (blk_cell BK183.out 0).trans rfl, (blk_cell BK183.out 1).trans rfl, (blk_cell BK183.out 2).trans rfl, (blk_cell BK183.out 3).trans rfl, (blk_cell BK183.out 4).trans rfl, (blk_cell BK183.out 5).trans rfl, ((HB.out.cell (World.block_lt_of_cell? w _ hw185_0)).trans hw185_0), ((HB.out.cell (World.block_lt_of_cell? w _ hw187_0)).trans hw187_0), ((HB.out.cell (World.block_lt_of_cell? w _ hw189_0)).trans hw189_0)⟩ (fun hHeld => ?_)
       clear hK K
       refine norm_ (a' := ?_) ?_ ?_
       rotate_left
       ·show Act.put _ (some 7) _ = _
        simp only [Act.put, List.setIfInBounds_toArray, List.set_cons_zero, List.set_cons_succ, i64_w, i32_w]
        rfl
       refine pure_ (i := 3) (N := some 8) (v := ?_) (a' := ?_) (Ya 31 15) rfl rfl (any_of HT_.out (by kernel_rfl)) (fun _ _ _ h => h) (Or.inl ⟨by rfl, ?_⟩) ?_ ?_
       rotate_left
       ·intro w'
        go_simp
        with_reducible rfl
       rotate_left
       ·simp only [Act.put, List.setIfInBounds_toArray, List.set_cons_zero, List.set_cons_succ, i64_w, i32_w]
        rfl
       refine pure_ (i := 4) (N := some 9) (v := ?_) (a' := ?_) (Ya 31 31) rfl rfl (any_of HT_.out (by kernel_rfl)) (fun _ _ _ h => h) (Or.inl ⟨by rfl, ?_⟩) ?_ ?_
       rotate_left
       ·intro w'
        go_simp
        with_reducible rfl
       rotate_left
       ·simp only [Act.put, List.setIfInBounds_toArray, List.set_cons_zero, List.set_cons_succ, i64_w, i32_w]
        rfl
       refine pure_ (i := 8) (N := some 13) (v := ?_) (a' := ?_) (Ya 31 287) rfl rfl (any_of HT_.out (by kernel_rfl)) (fun _ _ _ h => h) (Or.inl ⟨by rfl, ?_⟩) ?_ ?_
       rotate_left
       ·intro w'
        go_simp
        with_reducible rfl
       rotate_left
       ·simp only [Act.put, List.setIfInBounds_toArray, List.set_cons_zero, List.set_cons_succ, i64_w, i32_w]
        rfl
       refine take_ (i := 5) (N := some 10) (v := ?_) (a' := ?_) (Ya 31 319) rfl rfl (take_ofW HT_.out HW_.out (by kernel_rfl)) (fun _ _ _ h => h) (Or.inl ⟨by rfl, ?_⟩) hHeld ?_ ?_
       rotate_left
       ·rintro w' ⟨s0, s1, s2, s3, s4, s5, s6, s7, s8, s9, s10⟩
        go_simp
        with_reducible rfl
       rotate_left
       ·simp only [Act.put, List.setIfInBounds_toArray, List.set_cons_zero, List.set_cons_succ, i64_w, i32_w]
        rfl
       refine pure_ (i := 6) (N := some 11) (v := ?_) (a' := ?_) (Ya 31 383) rfl rfl (any_of HT_.out (by kernel_rfl)) (fun _ _ _ h => h) (Or.inl ⟨by rfl, ?_⟩) ?_ ?_
       rotate_left
       ·intro w'
        go_simp
        with_reducible rfl
       rotate_left
       ·simp only [Act.put, List.setIfInBounds_toArray, List.set_cons_zero, List.set_cons_succ, i64_w, i32_w]
        rfl
       refine take_ (i := 7) (N := some 12) (v := ?_) (a' := ?_) (Ya 31 511) rfl rfl (take_ofW HT_.out HW_.out (by kernel_rfl)) (fun _ _ _ h => h) (Or.inl ⟨by rfl, ?_⟩) hHeld ?_ ?_
       rotate_left
       ·rintro w' ⟨s0, s1, s2, s3, s4, s5, s6, s7, s8, s9, s10⟩
        go_simp
        with_reducible rfl
       rotate_left
       ·simp only [Act.put, List.setIfInBounds_toArray, List.set_cons_zero, List.set_cons_succ, i64_w, i32_w]
        rfl
       refine take_ (i := 9) (N := some 14) (v := ?_) (a' := ?_) (Ya 31 1023) rfl rfl (take_ofW HT_.out HW_.out (by kernel_rfl)) (fun _ _ _ h => h) (Or.inl ⟨by rfl, ?_⟩) hHeld ?_ ?_
       rotate_left
       ·rintro w' ⟨s0, s1, s2, s3, s4, s5, s6, s7, s8, s9, s10⟩
        go_simp
        with_reducible rfl
       rotate_left
       ·simp only [Act.put, List.setIfInBounds_toArray, List.set_cons_zero, List.set_cons_succ, i64_w, i32_w]
        rfl
       refine one_ (i := 10) (N := some 15) (Ya 31 2047) rfl rfl (one_of HT_.out (by kernel_rfl)) (by decide) (fun K hK => ?_)
       refine goes_ Tryz.func36 (by kernel_rfl) rfl #[.int .i64 2, .slice A185_0 (rd_L5 l0_0 2).length c185_0, .int .i64 a1_3] (by rfl) rfl rfl (by (try simp only [List.map_toArray, List.map_cons, List.map_nil]); first | done | rfl | (simp only [List.length_drop, List.length_take]; rfl)) ?_
       with_reducible refine (spec_Has.calls k 2 _ _ (rd_L5 l0_0 2) a1_3 true _ ?side1 ?side2 A6.out).mono ?_
       (case side1 => repeat (first | exact (Kd.C_below HR185_0.out HB.out) | (with_reducible refine Kd.C_alloc ?_ _) | (with_reducible refine Kd.C_drewN ?_ _) | (with_reducible refine Kd.C_drew ?_)))
       (case side2 => exact HC185_0.out)
       rintro e w17 ⟨rfl, hb⟩
       refine ⟨_, rfl, ?_⟩
       have n0_ := Aside0.mk (blk_below (g := gb182) (o := .cells #[.slice (some ad185) l0_0.length c0_0, .bool a0_1] 30 (0, 0)) (by (with_reducible repeat (first | refine blk_drewN ?_ _ | refine blk_drew ?_ | refine blk_alloc ?_ _)); exact BK182.out) hb)
       have n1_ := Aside0.mk (blk_below (g := gb183) (o := .cells #[.int .i64 a1_0, .int .i64 a1_1, .int .i64 a1_2, .int .i64 a1_3, .int .i64 a1_4, .int .i64 a1_5] 43 (0, 0)) (by (with_reducible repeat (first | refine blk_drewN ?_ _ | refine blk_drew ?_ | refine blk_alloc ?_ _)); exact BK183.out) hb)
       have n2_ := Aside0.mk (below_step (by repeat (first | (with_reducible first | exact HB.out | apply below_alloc | apply pw_below_drewN | apply below_drew1 | refine below_set ?_ GE182.out | refine below_set ?_ GE183.out) | exact HB.out)) hb)
       clear BK182
       clear BK183
       clear HB
       have BK182 := n0_
       have BK183 := n1_
       have HB := n2_
       clear n0_ n1_ n2_
       (try clear hb)
       (try clear hb2)
       (try clear hk)
       (try clear hi)
       refine hK.out _ _ ⟨(blk_cell BK182.out 0).trans rfl, (blk_cell BK182.out 1).trans rfl, (blk_cell BK183.out 0).trans rfl, (blk_cell BK183.out 1).trans rfl, (blk_cell BK183.out 2).trans rfl, (blk_cell BK183.out 3).trans rfl, (blk_cell BK183.out 4).trans rfl, (blk_cell BK183.out 5).trans rfl, ((HB.out.cell (World.block_lt_of_cell? w _ hw185_0)).trans hw185_0), ((HB.out.cell (World.block_lt_of_cell? w _ hw187_0)).trans hw187_0), ((HB.out.cell (World.block_lt_of_cell? w _ hw189_0)).trans hw189_0)⟩ (fun hHeld => ?_)
       clear hK K
       refine norm_ (a' := ?_) ?_ ?_
       rotate_left
       ·show Act.put _ (some 15) _ = _
        simp only [Act.put, List.setIfInBounds_toArray, List.set_cons_zero, List.set_cons_succ, i64_w, i32_w]
        rfl
       refine pure_ (i := 11) (N := some 16) (v := ?_) (a' := ?_) (Ya 31 4095) rfl rfl (any_of HT_.out (by kernel_rfl)) (fun _ _ _ h => h) (Or.inl ⟨by rfl, ?_⟩) ?_ ?_
       rotate_left
       ·intro w'
        go_simp
        with_reducible rfl
       rotate_left
       ·simp only [Act.put, List.setIfInBounds_toArray, List.set_cons_zero, List.set_cons_succ, i64_w, i32_w]
        rfl
       refine pure_ (i := 12) (N := some 17) (v := ?_) (a' := ?_) (Ya 31 8191) rfl rfl (any_of HT_.out (by kernel_rfl)) (fun _ _ _ h => h) (Or.inl ⟨by rfl, ?_⟩) ?_ ?_
       rotate_left
       ·intro w'
        go_simp
        with_reducible rfl
       rotate_left
       ·simp only [Act.put, List.setIfInBounds_toArray, List.set_cons_zero, List.set_cons_succ, i64_w, i32_w]
        rfl
       refine pure_ (i := 13) (N := some 18) (v := ?_) (a' := ?_) (Ya 31 16383) rfl rfl (any_of HT_.out (by kernel_rfl)) (fun _ _ _ h => h) (Or.inl ⟨by rfl, ?_⟩) ?_ ?_
       rotate_left
       ·intro w'
        go_simp
        with_reducible rfl
       rotate_left
       ·simp only [Act.put, List.setIfInBounds_toArray, List.set_cons_zero, List.set_cons_succ, i64_w, i32_w]
        rfl
       refine pure_ (i := 17) (N := some 22) (v := ?_) (a' := ?_) (Ya 31 147455) rfl rfl (any_of HT_.out (by kernel_rfl)) (fun _ _ _ h => h) (Or.inl ⟨by rfl, ?_⟩) ?_ ?_
       rotate_left
       ·intro w'
        go_simp
        with_reducible rfl
       rotate_left
       ·simp only [Act.put, List.setIfInBounds_toArray, List.set_cons_zero, List.set_cons_succ, i64_w, i32_w]
        rfl
       refine take_ (i := 14) (N := some 19) (v := ?_) (a' := ?_) (Ya 31 163839) rfl rfl (take_ofW HT_.out HW_.out (by kernel_rfl)) (fun _ _ _ h => h) (Or.inl ⟨by rfl, ?_⟩) hHeld ?_ ?_
       rotate_left
       ·rintro w' ⟨s0, s1, s2, s3, s4, s5, s6, s7, s8, s9, s10⟩
        go_simp
        with_reducible rfl
       rotate_left
       ·simp only [Act.put, List.setIfInBounds_toArray, List.set_cons_zero, List.set_cons_succ, i64_w, i32_w]
        rfl
       refine pure_ (i := 15) (N := some 20) (v := ?_) (a' := ?_) (Ya 31 196607) rfl rfl (any_of HT_.out (by kernel_rfl)) (fun _ _ _ h => h) (Or.inl ⟨by rfl, ?_⟩) ?_ ?_
       rotate_left
       ·intro w'
        go_simp
        with_reducible rfl
       rotate_left
       ·simp only [Act.put, List.setIfInBounds_toArray, List.set_cons_zero, List.set_cons_succ, i64_w, i32_w]
        rfl
       refine take_ (i := 16) (N := some 21) (v := ?_) (a' := ?_) (Ya 31 262143) rfl rfl (take_ofW HT_.out HW_.out (by kernel_rfl)) (fun _ _ _ h => h) (Or.inl ⟨by rfl, ?_⟩) hHeld ?_ ?_
       rotate_left
       ·rintro w' ⟨s0, s1, s2, s3, s4, s5, s6, s7, s8, s9, s10⟩
        go_simp
        with_reducible rfl
       rotate_left
       ·simp only [Act.put, List.setIfInBounds_toArray, List.set_cons_zero, List.set_cons_succ, i64_w, i32_w]
        rfl
       refine take_ (i := 18) (N := some 23) (v := ?_) (a' := ?_) (Ya 31 524287) rfl rfl (take_ofW HT_.out HW_.out (by kernel_rfl)) (fun _ _ _ h => h) (Or.inl ⟨by rfl, ?_⟩) hHeld ?_ ?_
       rotate_left
       ·rintro w' ⟨s0, s1, s2, s3, s4, s5, s6, s7, s8, s9, s10⟩
        go_simp
        with_reducible rfl
       rotate_left
       ·simp only [Act.put, List.setIfInBounds_toArray, List.set_cons_zero, List.set_cons_succ, i64_w, i32_w]
        rfl
       refine one_ (i := 19) (N := some 24) (Ya 31 1048575) rfl rfl (one_of HT_.out (by kernel_rfl)) (by decide) (fun K hK => ?_)
       refine goes_ Tryz.func36 (by kernel_rfl) rfl #[.int .i64 1, .slice A187_0 (rd_L5 l0_0 1).length c187_0, .int .i64 a1_4] (by rfl) rfl rfl (by (try simp only [List.map_toArray, List.map_cons, List.map_nil]); first | done | rfl | (simp only [List.length_drop, List.length_take]; rfl)) ?_
       with_reducible refine (spec_Has.calls k 1 _ _ (rd_L5 l0_0 1) a1_4 true _ ?side1 ?side2 A9.out).mono ?_
       (case side1 => repeat (first | exact (Kd.C_below HR187_0.out HB.out) | (with_reducible refine Kd.C_alloc ?_ _) | (with_reducible refine Kd.C_drewN ?_ _) | (with_reducible refine Kd.C_drew ?_)))
       (case side2 => exact HC187_0.out)
       rintro e w18 ⟨rfl, hb⟩
       refine ⟨_, rfl, ?_⟩
       have n0_ := Aside0.mk (blk_below (g := gb182) (o := .cells #[.slice (some ad185) l0_0.length c0_0, .bool a0_1] 30 (0, 0)) (by (with_reducible repeat (first | refine blk_drewN ?_ _ | refine blk_drew ?_ | refine blk_alloc ?_ _)); exact BK182.out) hb)
       have n1_ := Aside0.mk (blk_below (g := gb183) (o := .cells #[.int .i64 a1_0, .int .i64 a1_1, .int .i64 a1_2, .int .i64 a1_3, .int .i64 a1_4, .int .i64 a1_5] 43 (0, 0)) (by (with_reducible repeat (first | refine blk_drewN ?_ _ | refine blk_drew ?_ | refine blk_alloc ?_ _)); exact BK183.out) hb)
       have n2_ := Aside0.mk (below_step (by repeat (first | (with_reducible first | exact HB.out | apply below_alloc | apply pw_below_drewN | apply below_drew1 | refine below_set ?_ GE182.out | refine below_set ?_ GE183.out) | exact HB.out)) hb)
       clear BK182
       clear BK183
       clear HB
       have BK182 := n0_
       have BK183 := n1_
       have HB := n2_
       clear n0_ n1_ n2_
       (try clear hb)
       (try clear hb2)
       (try clear hk)
       (try clear hi)
       refine hK.out _ _ ⟨(blk_cell BK182.out 0).trans rfl, (blk_cell BK182.out 1).trans rfl, (blk_cell BK183.out 0).trans rfl, (blk_cell BK183.out 1).trans rfl, (blk_cell BK183.out 2).trans rfl, (blk_cell BK183.out 3).trans rfl, (blk_cell BK183.out 4).trans rfl, (blk_cell BK183.out 5).trans rfl, ((HB.out.cell (World.block_lt_of_cell? w _ hw185_0)).trans hw185_0), ((HB.out.cell (World.block_lt_of_cell? w _ hw187_0)).trans hw187_0), ((HB.out.cell (World.block_lt_of_cell? w _ hw189_0)).trans hw189_0)⟩ (fun hHeld => ?_)
       clear hK K
       refine norm_ (a' := ?_) ?_ ?_
       rotate_left
       ·show Act.put _ (some 24) _ = _
        simp only [Act.put, List.setIfInBounds_toArray, List.set_cons_zero, List.set_cons_succ, i64_w, i32_w]
        rfl
       refine pure_ (i := 20) (N := some 25) (v := ?_) (a' := ?_) (Ya 31 2097151) rfl rfl (any_of HT_.out (by kernel_rfl)) (fun _ _ _ h => h) (Or.inl ⟨by rfl, ?_⟩) ?_ ?_
       rotate_left
       ·intro w'
        go_simp
        with_reducible rfl
       rotate_left
       ·simp only [Act.put, List.setIfInBounds_toArray, List.set_cons_zero, List.set_cons_succ, i64_w, i32_w]
        rfl
       refine pure_ (i := 21) (N := some 26) (v := ?_) (a' := ?_) (Ya 31 4194303) rfl rfl (any_of HT_.out (by kernel_rfl)) (fun _ _ _ h => h) (Or.inl ⟨by rfl, ?_⟩) ?_ ?_
       rotate_left
       ·intro w'
        go_simp
        with_reducible rfl
       rotate_left
       ·simp only [Act.put, List.setIfInBounds_toArray, List.set_cons_zero, List.set_cons_succ, i64_w, i32_w]
        rfl
       refine pure_ (i := 22) (N := some 27) (v := ?_) (a' := ?_) (Ya 31 8388607) rfl rfl (any_of HT_.out (by kernel_rfl)) (fun _ _ _ h => h) (Or.inl ⟨by rfl, ?_⟩) ?_ ?_
       rotate_left
       ·intro w'
        go_simp
        with_reducible rfl
       rotate_left
       ·simp only [Act.put, List.setIfInBounds_toArray, List.set_cons_zero, List.set_cons_succ, i64_w, i32_w]
        rfl
       refine pure_ (i := 26) (N := some 31) (v := ?_) (a' := ?_) (Ya 31 75497471) rfl rfl (any_of HT_.out (by kernel_rfl)) (fun _ _ _ h => h) (Or.inl ⟨by rfl, ?_⟩) ?_ ?_
       rotate_left
       ·intro w'
        go_simp
        with_reducible rfl
       rotate_left
       ·simp only [Act.put, List.setIfInBounds_toArray, List.set_cons_zero, List.set_cons_succ, i64_w, i32_w]
        rfl
       refine take_ (i := 23) (N := some 28) (v := ?_) (a' := ?_) (Ya 31 83886079) rfl rfl (take_ofW HT_.out HW_.out (by kernel_rfl)) (fun _ _ _ h => h) (Or.inl ⟨by rfl, ?_⟩) hHeld ?_ ?_
       rotate_left
       ·rintro w' ⟨s0, s1, s2, s3, s4, s5, s6, s7, s8, s9, s10⟩
        go_simp
        with_reducible rfl
       rotate_left
       ·simp only [Act.put, List.setIfInBounds_toArray, List.set_cons_zero, List.set_cons_succ, i64_w, i32_w]
        rfl
       refine pure_ (i := 24) (N := some 29) (v := ?_) (a' := ?_) (Ya 31 100663295) rfl rfl (any_of HT_.out (by kernel_rfl)) (fun _ _ _ h => h) (Or.inl ⟨by rfl, ?_⟩) ?_ ?_
       rotate_left
       ·intro w'
        go_simp
        with_reducible rfl
       rotate_left
       ·simp only [Act.put, List.setIfInBounds_toArray, List.set_cons_zero, List.set_cons_succ, i64_w, i32_w]
        rfl
       refine take_ (i := 25) (N := some 30) (v := ?_) (a' := ?_) (Ya 31 134217727) rfl rfl (take_ofW HT_.out HW_.out (by kernel_rfl)) (fun _ _ _ h => h) (Or.inl ⟨by rfl, ?_⟩) hHeld ?_ ?_
       rotate_left
       ·rintro w' ⟨s0, s1, s2, s3, s4, s5, s6, s7, s8, s9, s10⟩
        go_simp
        with_reducible rfl
       rotate_left
       ·simp only [Act.put, List.setIfInBounds_toArray, List.set_cons_zero, List.set_cons_succ, i64_w, i32_w]
        rfl
       refine take_ (i := 27) (N := some 32) (v := ?_) (a' := ?_) (Ya 31 268435455) rfl rfl (take_ofW HT_.out HW_.out (by kernel_rfl)) (fun _ _ _ h => h) (Or.inl ⟨by rfl, ?_⟩) hHeld ?_ ?_
       rotate_left
       ·rintro w' ⟨s0, s1, s2, s3, s4, s5, s6, s7, s8, s9, s10⟩
        go_simp
        with_reducible rfl
       rotate_left
       ·simp only [Act.put, List.setIfInBounds_toArray, List.set_cons_zero, List.set_cons_succ, i64_w, i32_w]
        rfl
       refine one_ (i := 28) (N := some 33) (Ya 31 536870911) rfl rfl (one_of HT_.out (by kernel_rfl)) (by decide) (fun K hK => ?_)
       refine goes_ Tryz.func36 (by kernel_rfl) rfl #[.int .i64 0, .slice A189_0 (rd_L5 l0_0 0).length c189_0, .int .i64 a1_5] (by rfl) rfl rfl (by (try simp only [List.map_toArray, List.map_cons, List.map_nil]); first | done | rfl | (simp only [List.length_drop, List.length_take]; rfl)) ?_
       with_reducible refine (spec_Has.calls k 0 _ _ (rd_L5 l0_0 0) a1_5 t190 _ ?side1 ?side2 A12.out).mono ?_
       (case side1 => repeat (first | exact (Kd.C_below HR189_0.out HB.out) | (with_reducible refine Kd.C_alloc ?_ _) | (with_reducible refine Kd.C_drewN ?_ _) | (with_reducible refine Kd.C_drew ?_)))
       (case side2 => exact HC189_0.out)
       rintro e w19 ⟨rfl, hb⟩
       refine ⟨_, rfl, ?_⟩
       have n0_ := Aside0.mk (blk_below (g := gb182) (o := .cells #[.slice (some ad185) l0_0.length c0_0, .bool a0_1] 30 (0, 0)) (by (with_reducible repeat (first | refine blk_drewN ?_ _ | refine blk_drew ?_ | refine blk_alloc ?_ _)); exact BK182.out) hb)
       have n1_ := Aside0.mk (blk_below (g := gb183) (o := .cells #[.int .i64 a1_0, .int .i64 a1_1, .int .i64 a1_2, .int .i64 a1_3, .int .i64 a1_4, .int .i64 a1_5] 43 (0, 0)) (by (with_reducible repeat (first | refine blk_drewN ?_ _ | refine blk_drew ?_ | refine blk_alloc ?_ _)); exact BK183.out) hb)
       have n2_ := Aside0.mk (below_step (by repeat (first | (with_reducible first | exact HB.out | apply below_alloc | apply pw_below_drewN | apply below_drew1 | refine below_set ?_ GE182.out | refine below_set ?_ GE183.out) | exact HB.out)) hb)
       clear BK182
       clear BK183
       clear HB
       have BK182 := n0_
       have BK183 := n1_
       have HB := n2_
       clear n0_ n1_ n2_
       (try clear hb)
       (try clear hb2)
       (try clear hk)
       (try clear hi)
       refine hK.out _ _ ⟨(blk_cell BK182.out 0).trans rfl, (blk_cell BK182.out 1).trans rfl, (blk_cell BK183.out 0).trans rfl, (blk_cell BK183.out 1).trans rfl, (blk_cell BK183.out 2).trans rfl, (blk_cell BK183.out 3).trans rfl, (blk_cell BK183.out 4).trans rfl, (blk_cell BK183.out 5).trans rfl, ((HB.out.cell (World.block_lt_of_cell? w _ hw185_0)).trans hw185_0), ((HB.out.cell (World.block_lt_of_cell? w _ hw187_0)).trans hw187_0), ((HB.out.cell (World.block_lt_of_cell? w _ hw189_0)).trans hw189_0)⟩ (fun hHeld => ?_)
       clear hK K
       refine norm_ (a' := ?_) ?_ ?_
       rotate_left
       ·show Act.put _ (some 33) _ = _
        simp only [Act.put, List.setIfInBounds_toArray, List.set_cons_zero, List.set_cons_succ, i64_w, i32_w]
        rfl
       refine pure_ (i := 29) (N := some 34) (v := ?_) (a' := ?_) (Ya 31 1073741823) rfl rfl (any_of HT_.out (by kernel_rfl)) (fun _ _ _ h => h) (Or.inl ⟨by rfl, ?_⟩) ?_ ?_
       rotate_left
       ·intro w'
        go_simp
        with_reducible rfl
       rotate_left
       ·simp only [Act.put, List.setIfInBounds_toArray, List.set_cons_zero, List.set_cons_succ, i64_w, i32_w]
        rfl
       refine pure_ (i := 30) (N := some 4) (v := ?_) (a' := ?_) (Ya 31 2147483647) rfl rfl (any_of HT_.out (by kernel_rfl)) (fun _ _ _ h => h) (Or.inl ⟨by rfl, ?_⟩) ?_ ?_
       rotate_left
       ·intro w'
        go_simp
        with_reducible rfl
       rotate_left
       ·simp only [Act.put, List.setIfInBounds_toArray, List.set_cons_zero, List.set_cons_succ, i64_w, i32_w]
        rfl
       refine done_ (done_of HT_.out (by kernel_rfl)) ?_
       try go_wp2
       go_ret
       exact ⟨by first | rfl | (simp [errW_none, errW_some] <;> rfl) | (simp [*, errW_none, errW_some] <;> rfl), by repeat (first | (with_reducible first | exact HB.out | apply below_alloc | apply pw_below_drewN | apply below_drew1 | refine below_set ?_ GE182.out | refine below_set ?_ GE183.out) | exact HB.out)⟩
      ·rw [if_neg c11] at H
       exact absurd H (by simp)
     ·replace c10 := Bool.eq_false_iff.mpr c10
      subst c10
      have H1 : (some false) = some r := by rw [if_neg (show ¬ (false = true) by decide)] at H; exact H
      clear H
      have H := H1
      clear H1
      obtain rfl := Option.some.inj H
      go_enter Tryz.func18, Tryz.ntmps18
      try go_wp2_with (first | ((with_reducible refine gate_dst (N := 2) rfl ?_); refine box_event ?hg (N := 2) ?hd (cs := #[.slice A0_0 l0_0.length c0_0, .bool a0_1]) (t := 30) ?hr ?_; (case hd => rfl); (case hg => rfl); (case hr => first | (go_simp; done) | (go_simp; rfl)); intro gb182 hg w20 hbox hb; have n0_ := Aside0.mk (below_step (by repeat (first | (with_reducible first | exact HB.out | apply below_alloc | apply pw_below_drewN | apply below_drew1) | exact HB.out)) hb); have n1_ := Aside0.mk (hbox); have n2_ := Aside0.mk ((by rw [hg]; exact (below_size (by repeat (first | (with_reducible first | exact HB.out | apply below_alloc | apply pw_below_drewN | apply below_drew1) | exact HB.out))) : w.heap.size ≤ gb182)); have n3_ := Aside0.mk ((by rw [hg]; exact (below_size (by repeat (first | (with_reducible first | exact HB.out | apply below_alloc | apply pw_below_drewN | apply below_drew1) | exact HB.out))) : w.heap.size ≤ gb182)); clear HB; have HB := n0_; have BK182 := n1_; have GW182 := n2_; have GE182 := n3_; clear n0_ n1_ n2_ n3_; clear hb hbox hg) | ((with_reducible refine gate_dst (N := 3) rfl ?_); refine box_event ?hg (N := 3) ?hd (cs := #[.int .i64 a1_0, .int .i64 a1_1, .int .i64 a1_2, .int .i64 a1_3, .int .i64 a1_4, .int .i64 a1_5]) (t := 43) ?hr ?_; (case hd => rfl); (case hg => rfl); (case hr => first | (go_simp; done) | (go_simp; rfl)); intro gb183 hg w21 hbox hb; have n0_ := Aside0.mk (blk_below (g := gb182) (o := .cells #[.slice A0_0 l0_0.length c0_0, .bool a0_1] 30 (0, 0)) (by (with_reducible repeat (first | refine blk_drewN ?_ _ | refine blk_drew ?_ | refine blk_alloc ?_ _)); exact BK182.out) hb); have n1_ := Aside0.mk (below_step (by repeat (first | (with_reducible first | exact HB.out | apply below_alloc | apply pw_below_drewN | apply below_drew1 | refine below_set ?_ GE182.out) | exact HB.out)) hb); have n2_ := Aside0.mk (hbox); have n3_ := Aside0.mk ((by rw [hg]; exact (below_size (by repeat (first | (with_reducible first | exact HB.out | apply below_alloc | apply pw_below_drewN | apply below_drew1 | refine below_set ?_ GE182.out) | exact HB.out))) : w.heap.size ≤ gb183)); have n4_ := Aside0.mk ((by rw [hg]; exact (below_size (by repeat (first | (with_reducible first | exact HB.out | apply below_alloc | apply pw_below_drewN | apply below_drew1 | refine below_set ?_ GE182.out) | exact HB.out))) : w.heap.size ≤ gb183)); have n5_ := Aside0.mk ((by rw [hg]; exact Nat.ne_of_lt (blk_lt (g := gb182) (o := .cells #[.slice A0_0 l0_0.length c0_0, .bool a0_1] 30 (0, 0)) (by (with_reducible repeat (first | refine blk_drewN ?_ _ | refine blk_drew ?_ | refine blk_alloc ?_ _)); exact BK182.out)) : gb182 ≠ gb183)); have n6_ := Aside0.mk ((by rw [hg]; exact Nat.ne_of_gt (blk_lt (g := gb182) (o := .cells #[.slice A0_0 l0_0.length c0_0, .bool a0_1] 30 (0, 0)) (by (with_reducible repeat (first | refine blk_drewN ?_ _ | refine blk_drew ?_ | refine blk_alloc ?_ _)); exact BK182.out)) : gb183 ≠ gb182)); clear BK182; clear HB; have BK182 := n0_; have HB := n1_; have BK183 := n2_; have GW183 := n3_; have GE183 := n4_; have NB182_183 := n5_; have NB183_182 := n6_; clear n0_ n1_ n2_ n3_ n4_ n5_ n6_; clear hb hbox hg))
      have n0_ := Aside0.mk (blk_drew BK182.out)
      have n1_ := Aside0.mk (blk_drew BK183.out)
      have n2_ := Aside0.mk (below_drew1 HB.out)
      clear BK182
      clear BK183
      clear HB
      have BK182 := n0_
      have BK183 := n1_
      have HB := n2_
      clear n0_ n1_ n2_
      have p185 : 0 ≤ (2 : Int) := (by omega)
      have q185 : 2 < (l0_0.length : Int) := of_decide_eq_true (by first | (with_reducible assumption) | assumption)
      obtain ⟨ad185, A185_0, c185_0, e185, hx185_0, hl185_0, hi185_0⟩ := at_L5 HR0_0.out 2 p185 q185
      have hw185_0 := hx185_0
      (try rw [show ((2 : Int)).toNat = 2 from rfl] at hw185_0)
      (try rw [show 2 * 1 = 2 from rfl] at hw185_0)
      (try simp only [Nat.reduceMul, Nat.reduceEqDiff, Go.Addr.add, ↓reduceIte] at hw185_0)
      cases e185
      (try simp only [show (2 : Int).toNat = 2 from rfl, Nat.reduceMul, Nat.reduceEqDiff, Go.Addr.add, ↓reduceIte] at hx185_0)
      have qi185 : (2 < l0_0.length) = True := eq_true (by omega)
      (try rw [show ((2 : Int)).toNat = 2 from rfl] at hx185_0)
      replace hx185_0 := (HB.out.cell (World.block_lt_of_cell? w _ hx185_0)).trans hx185_0
      have HR185_0 := Aside0.mk hi185_0
      have HC185_0 := Aside0.mk hl185_0
      clear hi185_0 hl185_0
      replace p185 := eq_true p185
      replace q185 := eq_true q185
      have p187 : 0 ≤ (1 : Int) := (by omega)
      have q187 : 1 < (l0_0.length : Int) := of_decide_eq_true (by first | (with_reducible assumption) | assumption)
      obtain ⟨ad187, A187_0, c187_0, e187, hx187_0, hl187_0, hi187_0⟩ := at_L5 HR0_0.out 1 p187 q187
      have hw187_0 := hx187_0
      (try rw [show ((1 : Int)).toNat = 1 from rfl] at hw187_0)
      (try rw [show 1 * 1 = 1 from rfl] at hw187_0)
      (try simp only [Nat.reduceMul, Nat.reduceEqDiff, Go.Addr.add, ↓reduceIte] at hw187_0)
      obtain rfl : ad185 = ad187 := (by injection e187)
      (try simp only [show (1 : Int).toNat = 1 from rfl, Nat.reduceMul, Nat.reduceEqDiff, Go.Addr.add, ↓reduceIte] at hx187_0)
      have qi187 : (1 < l0_0.length) = True := eq_true (by omega)
      (try rw [show ((1 : Int)).toNat = 1 from rfl] at hx187_0)
      replace hx187_0 := (HB.out.cell (World.block_lt_of_cell? w _ hx187_0)).trans hx187_0
      have HR187_0 := Aside0.mk hi187_0
      have HC187_0 := Aside0.mk hl187_0
      clear hi187_0 hl187_0
      replace p187 := eq_true p187
      replace q187 := eq_true q187
      refine start_ (n := 31) (S := fun w' => w'.cell? ⟨gb182, 0, none⟩ = some (.slice (some ad185) l0_0.length c0_0) ∧ w'.cell? ⟨gb182, 1, none⟩ = some (.bool a0_1) ∧ w'.cell? ⟨gb183, 0, none⟩ = some (.int .i64 a1_0) ∧ w'.cell? ⟨gb183, 1, none⟩ = some (.int .i64 a1_1) ∧ w'.cell? ⟨gb183, 2, none⟩ = some (.int .i64 a1_2) ∧ w'.cell? ⟨gb183, 3, none⟩ = some (.int .i64 a1_3) ∧ w'.cell? ⟨gb183, 4, none⟩ = some (.int .i64 a1_4) ∧ w'.cell? ⟨gb183, 5, none⟩ = some (.int .i64 a1_5) ∧ w'.cell? ⟨ad185.block, ad185.off + 2, none⟩ = some (.slice A185_0 (rd_L5 l0_0 2).length c185_0) ∧ w'.cell? ⟨ad185.block, ad185.off + 1, none⟩ = some (.slice A187_0 (rd_L5 l0_0 1).length c187_0)) (ds := []) (Ya 31 0) (by kernel_rfl) rfl rfl ⟨(blk_cell BK182.out 0).trans rfl, (blk_cell BK182.out 1).trans rfl, (blk_cell BK183.out 0).trans rfl, (blk_cell BK183.out 1).trans rfl, (blk_cell BK183.out 2).trans rfl, (blk_cell BK183.out 3).trans rfl, (blk_cell BK183.out 4).trans rfl, (blk_cell BK183.out 5).trans rfl, ((HB.out.cell (World.block_lt_of_cell? w _ hw185_0)).trans hw185_0), ((HB.out.cell (World.block_lt_of_cell? w _ hw187_0)).trans hw187_0)⟩ (fun hHeld => ?_); refine with_tabW spec_Fits.tab1 spec_Fits.bits1 (fun HT_ HW_ => ?_)
      generalize w21.drew = w22 at BK182 BK183 HB HR185_0 HR187_0 hx185_0 hx187_0 hHeld ⊢
      refine take_ (i := 0) (N := some 5) (v := ?_) (a' := ?_) (Ya 31 1) rfl rfl (take_ofW HT_.out HW_.out (by kernel_rfl)) (fun _ _ _ h => h) (Or.inl ⟨by rfl, ?_⟩) hHeld ?_ ?_
      rotate_left
      ·rintro w' ⟨s0, s1, s2, s3, s4, s5, s6, s7, s8, s9⟩
       go_simp
       with_reducible rfl
      rotate_left
      ·simp only [Act.put, List.setIfInBounds_toArray, List.set_cons_zero, List.set_cons_succ, i64_w, i32_w]
       rfl
      refine take_ (i := 1) (N := some 6) (v := ?_) (a' := ?_) (Ya 31 3) rfl rfl (take_ofW HT_.out HW_.out (by kernel_rfl)) (fun _ _ _ h => h) (Or.inl ⟨by rfl, ?_⟩) hHeld ?_ ?_
      rotate_left
      ·rintro w' ⟨s0, s1, s2, s3, s4, s5, s6, s7, s8, s9⟩
       go_simp
       with_reducible rfl
      rotate_left
      ·simp only [Act.put, List.setIfInBounds_toArray, List.set_cons_zero, List.set_cons_succ, i64_w, i32_w]
       rfl
      refine one_ (i := 2) (N := some 7) (Ya 31 7) rfl rfl (one_of HT_.out (by kernel_rfl)) (by decide) (fun K hK => ?_)
      refine goes_ Tryz.func35 (by kernel_rfl) rfl #[.agg #[.slice (some ad185) l0_0.length c0_0, .bool a0_1], .agg #[.int .i64 a1_0, .int .i64 a1_1, .int .i64 a1_2, .int .i64 a1_3, .int .i64 a1_4, .int .i64 a1_5]] (by rfl) rfl rfl (by (try simp only [List.map_toArray, List.map_cons, List.map_nil]); first | done | rfl | (simp only [List.length_drop, List.length_take]; rfl)) ?_
      with_reducible refine (spec_DayFits.calls k _ _ l0_0 a0_1 a1_0 a1_1 a1_2 a1_3 a1_4 a1_5 true _ ?side1 ?side2 A3.out).mono ?_
      (case side1 => repeat (first | exact (Kd.C_below HR0_0.out HB.out) | (with_reducible refine Kd.C_alloc ?_ _) | (with_reducible refine Kd.C_drewN ?_ _) | (with_reducible refine Kd.C_drew ?_)))
      (case side2 => exact HC0_0.out)
      rintro e w23 ⟨rfl, hb⟩
      refine ⟨_, rfl, ?_⟩
      have n0_ := Aside0.mk (blk_below (g := gb182) (o := .cells #[.slice (some ad185) l0_0.length c0_0, .bool a0_1] 30 (0, 0)) (by (with_reducible repeat (first | refine blk_drewN ?_ _ | refine blk_drew ?_ | refine blk_alloc ?_ _)); exact BK182.out) hb)
      have n1_ := Aside0.mk (blk_below (g := gb183) (o := .cells #[.int .i64 a1_0, .int .i64 a1_1, .int .i64 a1_2, .int .i64 a1_3, .int .i64 a1_4, .int .i64 a1_5] 43 (0, 0)) (by (with_reducible repeat (first | refine blk_drewN ?_ _ | refine blk_drew ?_ | refine blk_alloc ?_ _)); exact BK183.out) hb)
      have n2_ := Aside0.mk (below_step (by repeat (first | (with_reducible first | exact HB.out | apply below_alloc | apply pw_below_drewN | apply below_drew1 | refine below_set ?_ GE182.out | refine below_set ?_ GE183.out) | exact HB.out)) hb)
      clear BK182
      clear BK183
      clear HB
      have BK182 := n0_
      have BK183 := n1_
      have HB := n2_
      clear n0_ n1_ n2_
      (try clear hb)
      (try clear hb2)
      (try clear hk)
      (try clear hi)
      refine hK.out _ _ ⟨(blk_cell BK182.out 0).trans rfl, (blk_cell BK182.out 1).trans rfl, (blk_cell BK183.out 0).trans rfl, (blk_cell BK183.out 1).trans rfl, (blk_cell BK183.out 2).trans rfl, (blk_cell BK183.out 3).trans rfl, (blk_cell BK183.out 4).trans rfl, (blk_cell BK183.out 5).trans rfl, ((HB.out.cell (World.block_lt_of_cell? w _ hw185_0)).trans hw185_0), ((HB.out.cell (World.block_lt_of_cell? w _ hw187_0)).trans hw187_0)⟩ (fun hHeld => ?_)
      clear hK K
      refine norm_ (a' := ?_) ?_ ?_
      rotate_left
      ·show Act.put _ (some 7) _ = _
       simp only [Act.put, List.setIfInBounds_toArray, List.set_cons_zero, List.set_cons_succ, i64_w, i32_w]
       rfl
      refine pure_ (i := 3) (N := some 8) (v := ?_) (a' := ?_) (Ya 31 15) rfl rfl (any_of HT_.out (by kernel_rfl)) (fun _ _ _ h => h) (Or.inl ⟨by rfl, ?_⟩) ?_ ?_
      rotate_left
      ·intro w'
       go_simp
       with_reducible rfl
      rotate_left
      ·simp only [Act.put, List.setIfInBounds_toArray, List.set_cons_zero, List.set_cons_succ, i64_w, i32_w]
       rfl
      refine pure_ (i := 4) (N := some 9) (v := ?_) (a' := ?_) (Ya 31 31) rfl rfl (any_of HT_.out (by kernel_rfl)) (fun _ _ _ h => h) (Or.inl ⟨by rfl, ?_⟩) ?_ ?_
      rotate_left
      ·intro w'
       go_simp
       with_reducible rfl
      rotate_left
      ·simp only [Act.put, List.setIfInBounds_toArray, List.set_cons_zero, List.set_cons_succ, i64_w, i32_w]
       rfl
      refine pure_ (i := 8) (N := some 13) (v := ?_) (a' := ?_) (Ya 31 287) rfl rfl (any_of HT_.out (by kernel_rfl)) (fun _ _ _ h => h) (Or.inl ⟨by rfl, ?_⟩) ?_ ?_
      rotate_left
      ·intro w'
       go_simp
       with_reducible rfl
      rotate_left
      ·simp only [Act.put, List.setIfInBounds_toArray, List.set_cons_zero, List.set_cons_succ, i64_w, i32_w]
       rfl
      refine take_ (i := 5) (N := some 10) (v := ?_) (a' := ?_) (Ya 31 319) rfl rfl (take_ofW HT_.out HW_.out (by kernel_rfl)) (fun _ _ _ h => h) (Or.inl ⟨by rfl, ?_⟩) hHeld ?_ ?_
      rotate_left
      ·rintro w' ⟨s0, s1, s2, s3, s4, s5, s6, s7, s8, s9⟩
       go_simp
       with_reducible rfl
      rotate_left
      ·simp only [Act.put, List.setIfInBounds_toArray, List.set_cons_zero, List.set_cons_succ, i64_w, i32_w]
       rfl
      refine pure_ (i := 6) (N := some 11) (v := ?_) (a' := ?_) (Ya 31 383) rfl rfl (any_of HT_.out (by kernel_rfl)) (fun _ _ _ h => h) (Or.inl ⟨by rfl, ?_⟩) ?_ ?_
      rotate_left
      ·intro w'
       go_simp
       with_reducible rfl
      rotate_left
      ·simp only [Act.put, List.setIfInBounds_toArray, List.set_cons_zero, List.set_cons_succ, i64_w, i32_w]
       rfl
      refine take_ (i := 7) (N := some 12) (v := ?_) (a' := ?_) (Ya 31 511) rfl rfl (take_ofW HT_.out HW_.out (by kernel_rfl)) (fun _ _ _ h => h) (Or.inl ⟨by rfl, ?_⟩) hHeld ?_ ?_
      rotate_left
      ·rintro w' ⟨s0, s1, s2, s3, s4, s5, s6, s7, s8, s9⟩
       go_simp
       with_reducible rfl
      rotate_left
      ·simp only [Act.put, List.setIfInBounds_toArray, List.set_cons_zero, List.set_cons_succ, i64_w, i32_w]
       rfl
      refine take_ (i := 9) (N := some 14) (v := ?_) (a' := ?_) (Ya 31 1023) rfl rfl (take_ofW HT_.out HW_.out (by kernel_rfl)) (fun _ _ _ h => h) (Or.inl ⟨by rfl, ?_⟩) hHeld ?_ ?_
      rotate_left
      ·rintro w' ⟨s0, s1, s2, s3, s4, s5, s6, s7, s8, s9⟩
       go_simp
       with_reducible rfl
      rotate_left
      ·simp only [Act.put, List.setIfInBounds_toArray, List.set_cons_zero, List.set_cons_succ, i64_w, i32_w]
       rfl
      refine one_ (i := 10) (N := some 15) (Ya 31 2047) rfl rfl (one_of HT_.out (by kernel_rfl)) (by decide) (fun K hK => ?_)
      refine goes_ Tryz.func36 (by kernel_rfl) rfl #[.int .i64 2, .slice A185_0 (rd_L5 l0_0 2).length c185_0, .int .i64 a1_3] (by rfl) rfl rfl (by (try simp only [List.map_toArray, List.map_cons, List.map_nil]); first | done | rfl | (simp only [List.length_drop, List.length_take]; rfl)) ?_
      with_reducible refine (spec_Has.calls k 2 _ _ (rd_L5 l0_0 2) a1_3 true _ ?side1 ?side2 A6.out).mono ?_
      (case side1 => repeat (first | exact (Kd.C_below HR185_0.out HB.out) | (with_reducible refine Kd.C_alloc ?_ _) | (with_reducible refine Kd.C_drewN ?_ _) | (with_reducible refine Kd.C_drew ?_)))
      (case side2 => exact HC185_0.out)
      rintro e w24 ⟨rfl, hb⟩
      refine ⟨_, rfl, ?_⟩
      have n0_ := Aside0.mk (blk_below (g := gb182) (o := .cells #[.slice (some ad185) l0_0.length c0_0, .bool a0_1] 30 (0, 0)) (by (with_reducible repeat (first | refine blk_drewN ?_ _ | refine blk_drew ?_ | refine blk_alloc ?_ _)); exact BK182.out) hb)
      have n1_ := Aside0.mk (blk_below (g := gb183) (o := .cells #[.int .i64 a1_0, .int .i64 a1_1, .int .i64 a1_2, .int .i64 a1_3, .int .i64 a1_4, .int .i64 a1_5] 43 (0, 0)) (by (with_reducible repeat (first | refine blk_drewN ?_ _ | refine blk_drew ?_ | refine blk_alloc ?_ _)); exact BK183.out) hb)
      have n2_ := Aside0.mk (below_step (by repeat (first | (with_reducible first | exact HB.out | apply below_alloc | apply pw_below_drewN | apply below_drew1 | refine below_set ?_ GE182.out | refine below_set ?_ GE183.out) | exact HB.out)) hb)
      clear BK182
      clear BK183
      clear HB
      have BK182 := n0_
      have BK183 := n1_
      have HB := n2_
      clear n0_ n1_ n2_
      (try clear hb)
      (try clear hb2)
      (try clear hk)
      (try clear hi)
      refine hK.out _ _ ⟨(blk_cell BK182.out 0).trans rfl, (blk_cell BK182.out 1).trans rfl, (blk_cell BK183.out 0).trans rfl, (blk_cell BK183.out 1).trans rfl, (blk_cell BK183.out 2).trans rfl, (blk_cell BK183.out 3).trans rfl, (blk_cell BK183.out 4).trans rfl, (blk_cell BK183.out 5).trans rfl, ((HB.out.cell (World.block_lt_of_cell? w _ hw185_0)).trans hw185_0), ((HB.out.cell (World.block_lt_of_cell? w _ hw187_0)).trans hw187_0)⟩ (fun hHeld => ?_)
      clear hK K
      refine norm_ (a' := ?_) ?_ ?_
      rotate_left
      ·show Act.put _ (some 15) _ = _
       simp only [Act.put, List.setIfInBounds_toArray, List.set_cons_zero, List.set_cons_succ, i64_w, i32_w]
       rfl
      refine pure_ (i := 11) (N := some 16) (v := ?_) (a' := ?_) (Ya 31 4095) rfl rfl (any_of HT_.out (by kernel_rfl)) (fun _ _ _ h => h) (Or.inl ⟨by rfl, ?_⟩) ?_ ?_
      rotate_left
      ·intro w'
       go_simp
       with_reducible rfl
      rotate_left
      ·simp only [Act.put, List.setIfInBounds_toArray, List.set_cons_zero, List.set_cons_succ, i64_w, i32_w]
       rfl
      refine pure_ (i := 12) (N := some 17) (v := ?_) (a' := ?_) (Ya 31 8191) rfl rfl (any_of HT_.out (by kernel_rfl)) (fun _ _ _ h => h) (Or.inl ⟨by rfl, ?_⟩) ?_ ?_
      rotate_left
      ·intro w'
       go_simp
       with_reducible rfl
      rotate_left
      ·simp only [Act.put, List.setIfInBounds_toArray, List.set_cons_zero, List.set_cons_succ, i64_w, i32_w]
       rfl
      refine pure_ (i := 13) (N := some 18) (v := ?_) (a' := ?_) (Ya 31 16383) rfl rfl (any_of HT_.out (by kernel_rfl)) (fun _ _ _ h => h) (Or.inl ⟨by rfl, ?_⟩) ?_ ?_
      rotate_left
      ·intro w'
       go_simp
       with_reducible rfl
      rotate_left
      ·simp only [Act.put, List.setIfInBounds_toArray, List.set_cons_zero, List.set_cons_succ, i64_w, i32_w]
       rfl
      refine pure_ (i := 17) (N := some 22) (v := ?_) (a' := ?_) (Ya 31 147455) rfl rfl (any_of HT_.out (by kernel_rfl)) (fun _ _ _ h => h) (Or.inl ⟨by rfl, ?_⟩) ?_ ?_
      rotate_left
      ·intro w'
       go_simp
       with_reducible rfl
      rotate_left
      ·simp only [Act.put, List.setIfInBounds_toArray, List.set_cons_zero, List.set_cons_succ, i64_w, i32_w]
       rfl
      refine take_ (i := 14) (N := some 19) (v := ?_) (a' := ?_) (Ya 31 163839) rfl rfl (take_ofW HT_.out HW_.out (by kernel_rfl)) (fun _ _ _ h => h) (Or.inl ⟨by rfl, ?_⟩) hHeld ?_ ?_
      rotate_left
      ·rintro w' ⟨s0, s1, s2, s3, s4, s5, s6, s7, s8, s9⟩
       go_simp
       with_reducible rfl
      rotate_left
      ·simp only [Act.put, List.setIfInBounds_toArray, List.set_cons_zero, List.set_cons_succ, i64_w, i32_w]
       rfl
      refine pure_ (i := 15) (N := some 20) (v := ?_) (a' := ?_) (Ya 31 196607) rfl rfl (any_of HT_.out (by kernel_rfl)) (fun _ _ _ h => h) (Or.inl ⟨by rfl, ?_⟩) ?_ ?_
      rotate_left
      ·intro w'
       go_simp
       with_reducible rfl
      rotate_left
      ·simp only [Act.put, List.setIfInBounds_toArray, List.set_cons_zero, List.set_cons_succ, i64_w, i32_w]
       rfl
      refine take_ (i := 16) (N := some 21) (v := ?_) (a' := ?_) (Ya 31 262143) rfl rfl (take_ofW HT_.out HW_.out (by kernel_rfl)) (fun _ _ _ h => h) (Or.inl ⟨by rfl, ?_⟩) hHeld ?_ ?_
      rotate_left
      ·rintro w' ⟨s0, s1, s2, s3, s4, s5, s6, s7, s8, s9⟩
       go_simp
       with_reducible rfl
      rotate_left
      ·simp only [Act.put, List.setIfInBounds_toArray, List.set_cons_zero, List.set_cons_succ, i64_w, i32_w]
       rfl
      refine take_ (i := 18) (N := some 23) (v := ?_) (a' := ?_) (Ya 31 524287) rfl rfl (take_ofW HT_.out HW_.out (by kernel_rfl)) (fun _ _ _ h => h) (Or.inl ⟨by rfl, ?_⟩) hHeld ?_ ?_
      rotate_left
      ·rintro w' ⟨s0, s1, s2, s3, s4, s5, s6, s7, s8, s9⟩
       go_simp
       with_reducible rfl
      rotate_left
      ·simp only [Act.put, List.setIfInBounds_toArray, List.set_cons_zero, List.set_cons_succ, i64_w, i32_w]
       rfl
      refine one_ (i := 19) (N := some 24) (Ya 31 1048575) rfl rfl (one_of HT_.out (by kernel_rfl)) (by decide) (fun K hK => ?_)
      refine goes_ Tryz.func36 (by kernel_rfl) rfl #[.int .i64 1, .slice A187_0 (rd_L5 l0_0 1).length c187_0, .int .i64 a1_4] (by rfl) rfl rfl (by (try simp only [List.map_toArray, List.map_cons, List.map_nil]); first | done | rfl | (simp only [List.length_drop, List.length_take]; rfl)) ?_
      with_reducible refine (spec_Has.calls k 1 _ _ (rd_L5 l0_0 1) a1_4 false _ ?side1 ?side2 A9.out).mono ?_
      (case side1 => repeat (first | exact (Kd.C_below HR187_0.out HB.out) | (with_reducible refine Kd.C_alloc ?_ _) | (with_reducible refine Kd.C_drewN ?_ _) | (with_reducible refine Kd.C_drew ?_)))
      (case side2 => exact HC187_0.out)
      rintro e w25 ⟨rfl, hb⟩
      refine ⟨_, rfl, ?_⟩
      have n0_ := Aside0.mk (blk_below (g := gb182) (o := .cells #[.slice (some ad185) l0_0.length c0_0, .bool a0_1] 30 (0, 0)) (by (with_reducible repeat (first | refine blk_drewN ?_ _ | refine blk_drew ?_ | refine blk_alloc ?_ _)); exact BK182.out) hb)
      have n1_ := Aside0.mk (blk_below (g := gb183) (o := .cells #[.int .i64 a1_0, .int .i64 a1_1, .int .i64 a1_2, .int .i64 a1_3, .int .i64 a1_4, .int .i64 a1_5] 43 (0, 0)) (by (with_reducible repeat (first | refine blk_drewN ?_ _ | refine blk_drew ?_ | refine blk_alloc ?_ _)); exact BK183.out) hb)
      have n2_ := Aside0.mk (below_step (by repeat (first | (with_reducible first | exact HB.out | apply below_alloc | apply pw_below_drewN | apply below_drew1 | refine below_set ?_ GE182.out | refine below_set ?_ GE183.out) | exact HB.out)) hb)
      clear BK182
      clear BK183
      clear HB
      have BK182 := n0_
      have BK183 := n1_
      have HB := n2_
      clear n0_ n1_ n2_
      (try clear hb)
      (try clear hb2)
      (try clear hk)
      (try clear hi)
      refine hK.out _ _ ⟨(blk_cell BK182.out 0).trans rfl, (blk_cell BK182.out 1).trans rfl, (blk_cell BK183.out 0).trans rfl, (blk_cell BK183.out 1).trans rfl, (blk_cell BK183.out 2).trans rfl, (blk_cell BK183.out 3).trans rfl, (blk_cell BK183.out 4).trans rfl, (blk_cell BK183.out 5).trans rfl, ((HB.out.cell (World.block_lt_of_cell? w _ hw185_0)).trans hw185_0), ((HB.out.cell (World.block_lt_of_cell? w _ hw187_0)).trans hw187_0)⟩ (fun hHeld => ?_)
      clear hK K
      refine norm_ (a' := ?_) ?_ ?_
      rotate_left
      ·show Act.put _ (some 24) _ = _
       simp only [Act.put, List.setIfInBounds_toArray, List.set_cons_zero, List.set_cons_succ, i64_w, i32_w]
       rfl
      refine pure_ (i := 20) (N := some 25) (v := ?_) (a' := ?_) (Ya 31 2097151) rfl rfl (any_of HT_.out (by kernel_rfl)) (fun _ _ _ h => h) (Or.inl ⟨by rfl, ?_⟩) ?_ ?_
      rotate_left
      ·intro w'
       go_simp
       with_reducible rfl
      rotate_left
      ·simp only [Act.put, List.setIfInBounds_toArray, List.set_cons_zero, List.set_cons_succ, i64_w, i32_w]
       rfl
      refine pure_ (i := 21) (N := some 26) (v := ?_) (a' := ?_) (Ya 31 4194303) rfl rfl (any_of HT_.out (by kernel_rfl)) (fun _ _ _ h => h) (Or.inl ⟨by rfl, ?_⟩) ?_ ?_
      rotate_left
      ·intro w'
       go_simp
       with_reducible rfl
      rotate_left
      ·simp only [Act.put, List.setIfInBounds_toArray, List.set_cons_zero, List.set_cons_succ, i64_w, i32_w]
       rfl
      refine pure_ (i := 22) (N := some 27) (v := undef) (a' := ?_) (Ya 31 8388607) rfl rfl (any_of HT_.out (by kernel_rfl)) (fun _ _ _ h => h) (Or.inr ⟨by rfl, rfl⟩) ?_ ?_
      rotate_left
      ·simp only [Act.put, List.setIfInBounds_toArray, List.set_cons_zero, List.set_cons_succ, i64_w, i32_w]
       rfl
      refine pure_ (i := 23) (N := some 28) (v := undef) (a' := ?_) (Ya 31 16777215) rfl rfl (any_of HT_.out (by kernel_rfl)) (fun _ _ _ h => h) (Or.inr ⟨by rfl, rfl⟩) ?_ ?_
      rotate_left
      ·simp only [Act.put, List.setIfInBounds_toArray, List.set_cons_zero, List.set_cons_succ, i64_w, i32_w]
       rfl
      refine pure_ (i := 24) (N := some 29) (v := undef) (a' := ?_) (Ya 31 33554431) rfl rfl (any_of HT_.out (by kernel_rfl)) (fun _ _ _ h => h) (Or.inr ⟨by rfl, rfl⟩) ?_ ?_
      rotate_left
      ·simp only [Act.put, List.setIfInBounds_toArray, List.set_cons_zero, List.set_cons_succ, i64_w, i32_w]
       rfl
      refine pure_ (i := 25) (N := some 30) (v := undef) (a' := ?_) (Ya 31 67108863) rfl rfl (any_of HT_.out (by kernel_rfl)) (fun _ _ _ h => h) (Or.inr ⟨by rfl, rfl⟩) ?_ ?_
      rotate_left
      ·simp only [Act.put, List.setIfInBounds_toArray, List.set_cons_zero, List.set_cons_succ, i64_w, i32_w]
       rfl
      refine pure_ (i := 26) (N := some 31) (v := undef) (a' := ?_) (Ya 31 134217727) rfl rfl (any_of HT_.out (by kernel_rfl)) (fun _ _ _ h => h) (Or.inr ⟨by rfl, rfl⟩) ?_ ?_
      rotate_left
      ·simp only [Act.put, List.setIfInBounds_toArray, List.set_cons_zero, List.set_cons_succ, i64_w, i32_w]
       rfl
      refine pure_ (i := 27) (N := some 32) (v := undef) (a' := ?_) (Ya 31 268435455) rfl rfl (any_of HT_.out (by kernel_rfl)) (fun _ _ _ h => h) (Or.inr ⟨by rfl, rfl⟩) ?_ ?_
      rotate_left
      ·simp only [Act.put, List.setIfInBounds_toArray, List.set_cons_zero, List.set_cons_succ, i64_w, i32_w]
       rfl
      refine pure_ (i := 28) (N := some 33) (v := undef) (a' := ?_) (Ya 31 536870911) rfl rfl (any_of HT_.out (by kernel_rfl)) (fun _ _ _ h => h) (Or.inr ⟨by rfl, rfl⟩) ?_ ?_
      rotate_left
      ·simp only [Act.put, List.setIfInBounds_toArray, List.set_cons_zero, List.set_cons_succ, i64_w, i32_w]
       rfl
      refine pure_ (i := 29) (N := some 34) (v := ?_) (a' := ?_) (Ya 31 1073741823) rfl rfl (any_of HT_.out (by kernel_rfl)) (fun _ _ _ h => h) (Or.inl ⟨by rfl, ?_⟩) ?_ ?_
      rotate_left
      ·intro w'
       go_simp
       with_reducible rfl
      rotate_left
      ·simp only [Act.put, List.setIfInBounds_toArray, List.set_cons_zero, List.set_cons_succ, i64_w, i32_w]
       rfl
      refine pure_ (i := 30) (N := some 4) (v := ?_) (a' := ?_) (Ya 31 2147483647) rfl rfl (any_of HT_.out (by kernel_rfl)) (fun _ _ _ h => h) (Or.inl ⟨by rfl, ?_⟩) ?_ ?_
      rotate_left
      ·intro w'
       go_simp
       with_reducible rfl
      rotate_left
      ·simp only [Act.put, List.setIfInBounds_toArray, List.set_cons_zero, List.set_cons_succ, i64_w, i32_w]
       rfl
      refine done_ (done_of HT_.out (by kernel_rfl)) ?_
      try go_wp2
      go_ret
      exact ⟨by first | rfl | (simp [errW_none, errW_some] <;> rfl) | (simp [*, errW_none, errW_some] <;> rfl), by repeat (first | (with_reducible first | exact HB.out | apply below_alloc | apply pw_below_drewN | apply below_drew1 | refine below_set ?_ GE182.out | refine below_set ?_ GE183.out) | exact HB.out)⟩
    ·rw [if_neg c8] at H
     exact absurd H (by simp)
   ·replace c7 := Bool.eq_false_iff.mpr c7
    subst c7
    have H1 : (some false) = some r := by rw [if_neg (show ¬ (false = true) by decide)] at H; exact H
    clear H
    have H := H1
    clear H1
    obtain rfl := Option.some.inj H
    go_enter Tryz.func18, Tryz.ntmps18
    try go_wp2_with (first | ((with_reducible refine gate_dst (N := 2) rfl ?_); refine box_event ?hg (N := 2) ?hd (cs := #[.slice A0_0 l0_0.length c0_0, .bool a0_1]) (t := 30) ?hr ?_; (case hd => rfl); (case hg => rfl); (case hr => first | (go_simp; done) | (go_simp; rfl)); intro gb182 hg w26 hbox hb; have n0_ := Aside0.mk (below_step (by repeat (first | (with_reducible first | exact HB.out | apply below_alloc | apply pw_below_drewN | apply below_drew1) | exact HB.out)) hb); have n1_ := Aside0.mk (hbox); have n2_ := Aside0.mk ((by rw [hg]; exact (below_size (by repeat (first | (with_reducible first | exact HB.out | apply below_alloc | apply pw_below_drewN | apply below_drew1) | exact HB.out))) : w.heap.size ≤ gb182)); have n3_ := Aside0.mk ((by rw [hg]; exact (below_size (by repeat (first | (with_reducible first | exact HB.out | apply below_alloc | apply pw_below_drewN | apply below_drew1) | exact HB.out))) : w.heap.size ≤ gb182)); clear HB; have HB := n0_; have BK182 := n1_; have GW182 := n2_; have GE182 := n3_; clear n0_ n1_ n2_ n3_; clear hb hbox hg) | ((with_reducible refine gate_dst (N := 3) rfl ?_); refine box_event ?hg (N := 3) ?hd (cs := #[.int .i64 a1_0, .int .i64 a1_1, .int .i64 a1_2, .int .i64 a1_3, .int .i64 a1_4, .int .i64 a1_5]) (t := 43) ?hr ?_; (case hd => rfl); (case hg => rfl); (case hr => first | (go_simp; done) | (go_simp; rfl)); intro gb183 hg w27 hbox hb; have n0_ := Aside0.mk (blk_below (g := gb182) (o := .cells #[.slice A0_0 l0_0.length c0_0, .bool a0_1] 30 (0, 0)) (by (with_reducible repeat (first | refine blk_drewN ?_ _ | refine blk_drew ?_ | refine blk_alloc ?_ _)); exact BK182.out) hb); have n1_ := Aside0.mk (below_step (by repeat (first | (with_reducible first | exact HB.out | apply below_alloc | apply pw_below_drewN | apply below_drew1 | refine below_set ?_ GE182.out) | exact HB.out)) hb); have n2_ := Aside0.mk (hbox); have n3_ := Aside0.mk ((by rw [hg]; exact (below_size (by repeat (first | (with_reducible first | exact HB.out | apply below_alloc | apply pw_below_drewN | apply below_drew1 | refine below_set ?_ GE182.out) | exact HB.out))) : w.heap.size ≤ gb183)); have n4_ := Aside0.mk ((by rw [hg]; exact (below_size (by repeat (first | (with_reducible first | exact HB.out | apply below_alloc | apply pw_below_drewN | apply below_drew1 | refine below_set ?_ GE182.out) | exact HB.out))) : w.heap.size ≤ gb183)); have n5_ := Aside0.mk ((by rw [hg]; exact Nat.ne_of_lt (blk_lt (g := gb182) (o := .cells #[.slice A0_0 l0_0.length c0_0, .bool a0_1] 30 (0, 0)) (by (with_reducible repeat (first | refine blk_drewN ?_ _ | refine blk_drew ?_ | refine blk_alloc ?_ _)); exact BK182.out)) : gb182 ≠ gb183)); have n6_ := Aside0.mk ((by rw [hg]; exact Nat.ne_of_gt (blk_lt (g := gb182) (o := .cells #[.slice A0_0 l0_0.length c0_0, .bool a0_1] 30 (0, 0)) (by (with_reducible repeat (first | refine blk_drewN ?_ _ | refine blk_drew ?_ | refine blk_alloc ?_ _)); exact BK182.out)) : gb183 ≠ gb182)); clear BK182; clear HB; have BK182 := n0_; have HB := n1_; have BK183 := n2_; have GW183 := n3_; have GE183 := n4_; have NB182_183 := n5_; have NB183_182 := n6_; clear n0_ n1_ n2_ n3_ n4_ n5_ n6_; clear hb hbox hg))
    have n0_ := Aside0.mk (blk_drew BK182.out)
    have n1_ := Aside0.mk (blk_drew BK183.out)
    have n2_ := Aside0.mk (below_drew1 HB.out)
    clear BK182
    clear BK183
    clear HB
    have BK182 := n0_
    have BK183 := n1_
    have HB := n2_
    clear n0_ n1_ n2_
    have p185 : 0 ≤ (2 : Int) := (by omega)
    have q185 : 2 < (l0_0.length : Int) := of_decide_eq_true (by first | (with_reducible assumption) | assumption)
    obtain ⟨ad185, A185_0, c185_0, e185, hx185_0, hl185_0, hi185_0⟩ := at_L5 HR0_0.out 2 p185 q185
    have hw185_0 := hx185_0
    (try rw [show ((2 : Int)).toNat = 2 from rfl] at hw185_0)
    (try rw [show 2 * 1 = 2 from rfl] at hw185_0)
    (try simp only [Nat.reduceMul, Nat.reduceEqDiff, Go.Addr.add, ↓reduceIte] at hw185_0)
    cases e185
    (try simp only [show (2 : Int).toNat = 2 from rfl, Nat.reduceMul, Nat.reduceEqDiff, Go.Addr.add, ↓reduceIte] at hx185_0)
    have qi185 : (2 < l0_0.length) = True := eq_true (by omega)
    (try rw [show ((2 : Int)).toNat = 2 from rfl] at hx185_0)
    replace hx185_0 := (HB.out.cell (World.block_lt_of_cell? w _ hx185_0)).trans hx185_0
    have HR185_0 := Aside0.mk hi185_0
    have HC185_0 := Aside0.mk hl185_0
    clear hi185_0 hl185_0
    replace p185 := eq_true p185
    replace q185 := eq_true q185
    refine start_ (n := 31) (S := fun w' => w'.cell? ⟨gb182, 0, none⟩ = some (.slice (some ad185) l0_0.length c0_0) ∧ w'.cell? ⟨gb182, 1, none⟩ = some (.bool a0_1) ∧ w'.cell? ⟨gb183, 0, none⟩ = some (.int .i64 a1_0) ∧ w'.cell? ⟨gb183, 1, none⟩ = some (.int .i64 a1_1) ∧ w'.cell? ⟨gb183, 2, none⟩ = some (.int .i64 a1_2) ∧ w'.cell? ⟨gb183, 3, none⟩ = some (.int .i64 a1_3) ∧ w'.cell? ⟨gb183, 4, none⟩ = some (.int .i64 a1_4) ∧ w'.cell? ⟨gb183, 5, none⟩ = some (.int .i64 a1_5) ∧ w'.cell? ⟨ad185.block, ad185.off + 2, none⟩ = some (.slice A185_0 (rd_L5 l0_0 2).length c185_0)) (ds := []) (Ya 31 0) (by kernel_rfl) rfl rfl ⟨(blk_cell BK182.out 0).trans rfl, (blk_cell BK182.out 1).trans rfl, (blk_cell BK183.out 0).trans rfl, (blk_cell BK183.out 1).trans rfl, (blk_cell BK183.out 2).trans rfl, (blk_cell BK183.out 3).trans rfl, (blk_cell BK183.out 4).trans rfl, (blk_cell BK183.out 5).trans rfl, ((HB.out.cell (World.block_lt_of_cell? w _ hw185_0)).trans hw185_0)⟩ (fun hHeld => ?_); refine with_tabW spec_Fits.tab1 spec_Fits.bits1 (fun HT_ HW_ => ?_)
    generalize w27.drew = w28 at BK182 BK183 HB HR185_0 hx185_0 hHeld ⊢
    refine take_ (i := 0) (N := some 5) (v := ?_) (a' := ?_) (Ya 31 1) rfl rfl (take_ofW HT_.out HW_.out (by kernel_rfl)) (fun _ _ _ h => h) (Or.inl ⟨by rfl, ?_⟩) hHeld ?_ ?_
    rotate_left
    ·rintro w' ⟨s0, s1, s2, s3, s4, s5, s6, s7, s8⟩
     go_simp
     with_reducible rfl
    rotate_left
    ·simp only [Act.put, List.setIfInBounds_toArray, List.set_cons_zero, List.set_cons_succ, i64_w, i32_w]
     rfl
    refine take_ (i := 1) (N := some 6) (v := ?_) (a' := ?_) (Ya 31 3) rfl rfl (take_ofW HT_.out HW_.out (by kernel_rfl)) (fun _ _ _ h => h) (Or.inl ⟨by rfl, ?_⟩) hHeld ?_ ?_
    rotate_left
    ·rintro w' ⟨s0, s1, s2, s3, s4, s5, s6, s7, s8⟩
     go_simp
     with_reducible rfl
    rotate_left
    ·simp only [Act.put, List.setIfInBounds_toArray, List.set_cons_zero, List.set_cons_succ, i64_w, i32_w]
     rfl
    refine one_ (i := 2) (N := some 7) (Ya 31 7) rfl rfl (one_of HT_.out (by kernel_rfl)) (by decide) (fun K hK => ?_)
    refine goes_ Tryz.func35 (by kernel_rfl) rfl #[.agg #[.slice (some ad185) l0_0.length c0_0, .bool a0_1], .agg #[.int .i64 a1_0, .int .i64 a1_1, .int .i64 a1_2, .int .i64 a1_3, .int .i64 a1_4, .int .i64 a1_5]] (by rfl) rfl rfl (by (try simp only [List.map_toArray, List.map_cons, List.map_nil]); first | done | rfl | (simp only [List.length_drop, List.length_take]; rfl)) ?_
    with_reducible refine (spec_DayFits.calls k _ _ l0_0 a0_1 a1_0 a1_1 a1_2 a1_3 a1_4 a1_5 true _ ?side1 ?side2 A3.out).mono ?_
    (case side1 => repeat (first | exact (Kd.C_below HR0_0.out HB.out) | (with_reducible refine Kd.C_alloc ?_ _) | (with_reducible refine Kd.C_drewN ?_ _) | (with_reducible refine Kd.C_drew ?_)))
    (case side2 => exact HC0_0.out)
    rintro e w29 ⟨rfl, hb⟩
    refine ⟨_, rfl, ?_⟩
    have n0_ := Aside0.mk (blk_below (g := gb182) (o := .cells #[.slice (some ad185) l0_0.length c0_0, .bool a0_1] 30 (0, 0)) (by (with_reducible repeat (first | refine blk_drewN ?_ _ | refine blk_drew ?_ | refine blk_alloc ?_ _)); exact BK182.out) hb)
    have n1_ := Aside0.mk (blk_below (g := gb183) (o := .cells #[.int .i64 a1_0, .int .i64 a1_1, .int .i64 a1_2, .int .i64 a1_3, .int .i64 a1_4, .int .i64 a1_5] 43 (0, 0)) (by (with_reducible repeat (first | refine blk_drewN ?_ _ | refine blk_drew ?_ | refine blk_alloc ?_ _)); exact BK183.out) hb)
    have n2_ := Aside0.mk (below_step (by repeat (first | (with_reducible first | exact HB.out | apply below_alloc | apply pw_below_drewN | apply below_drew1 | refine below_set ?_ GE182.out | refine below_set ?_ GE183.out) | exact HB.out)) hb)
    clear BK182
    clear BK183
    clear HB
    have BK182 := n0_
    have BK183 := n1_
    have HB := n2_
    clear n0_ n1_ n2_
    (try clear hb)
    (try clear hb2)
    (try clear hk)
    (try clear hi)
    refine hK.out _ _ ⟨(blk_cell BK182.out 0).trans rfl, (blk_cell BK182.out 1).trans rfl, (blk_cell BK183.out 0).trans rfl, (blk_cell BK183.out 1).trans rfl, (blk_cell BK183.out 2).trans rfl, (blk_cell BK183.out 3).trans rfl, (blk_cell BK183.out 4).trans rfl, (blk_cell BK183.out 5).trans rfl, ((HB.out.cell (World.block_lt_of_cell? w _ hw185_0)).trans hw185_0)⟩ (fun hHeld => ?_)
    clear hK K
    refine norm_ (a' := ?_) ?_ ?_
    rotate_left
    ·show Act.put _ (some 7) _ = _
     simp only [Act.put, List.setIfInBounds_toArray, List.set_cons_zero, List.set_cons_succ, i64_w, i32_w]
     rfl
    refine pure_ (i := 3) (N := some 8) (v := ?_) (a' := ?_) (Ya 31 15) rfl rfl (any_of HT_.out (by kernel_rfl)) (fun _ _ _ h => h) (Or.inl ⟨by rfl, ?_⟩) ?_ ?_
    rotate_left
    ·intro w'
     go_simp
     with_reducible rfl
    rotate_left
    ·simp only [Act.put, List.setIfInBounds_toArray, List.set_cons_zero, List.set_cons_succ, i64_w, i32_w]
     rfl
    refine pure_ (i := 4) (N := some 9) (v := ?_) (a' := ?_) (Ya 31 31) rfl rfl (any_of HT_.out (by kernel_rfl)) (fun _ _ _ h => h) (Or.inl ⟨by rfl, ?_⟩) ?_ ?_
    rotate_left
    ·intro w'
     go_simp
     with_reducible rfl
    rotate_left
    ·simp only [Act.put, List.setIfInBounds_toArray, List.set_cons_zero, List.set_cons_succ, i64_w, i32_w]
     rfl
    refine pure_ (i := 8) (N := some 13) (v := ?_) (a' := ?_) (Ya 31 287) rfl rfl (any_of HT_.out (by kernel_rfl)) (fun _ _ _ h => h) (Or.inl ⟨by rfl, ?_⟩) ?_ ?_
    rotate_left
    ·intro w'
     go_simp
     with_reducible rfl
    rotate_left
    ·simp only [Act.put, List.setIfInBounds_toArray, List.set_cons_zero, List.set_cons_succ, i64_w, i32_w]
     rfl
    refine take_ (i := 5) (N := some 10) (v := ?_) (a' := ?_) (Ya 31 319) rfl rfl (take_ofW HT_.out HW_.out (by kernel_rfl)) (fun _ _ _ h => h) (Or.inl ⟨by rfl, ?_⟩) hHeld ?_ ?_
    rotate_left
    ·rintro w' ⟨s0, s1, s2, s3, s4, s5, s6, s7, s8⟩
     go_simp
     with_reducible rfl
    rotate_left
    ·simp only [Act.put, List.setIfInBounds_toArray, List.set_cons_zero, List.set_cons_succ, i64_w, i32_w]
     rfl
    refine pure_ (i := 6) (N := some 11) (v := ?_) (a' := ?_) (Ya 31 383) rfl rfl (any_of HT_.out (by kernel_rfl)) (fun _ _ _ h => h) (Or.inl ⟨by rfl, ?_⟩) ?_ ?_
    rotate_left
    ·intro w'
     go_simp
     with_reducible rfl
    rotate_left
    ·simp only [Act.put, List.setIfInBounds_toArray, List.set_cons_zero, List.set_cons_succ, i64_w, i32_w]
     rfl
    refine take_ (i := 7) (N := some 12) (v := ?_) (a' := ?_) (Ya 31 511) rfl rfl (take_ofW HT_.out HW_.out (by kernel_rfl)) (fun _ _ _ h => h) (Or.inl ⟨by rfl, ?_⟩) hHeld ?_ ?_
    rotate_left
    ·rintro w' ⟨s0, s1, s2, s3, s4, s5, s6, s7, s8⟩
     go_simp
     with_reducible rfl
    rotate_left
    ·simp only [Act.put, List.setIfInBounds_toArray, List.set_cons_zero, List.set_cons_succ, i64_w, i32_w]
     rfl
    refine take_ (i := 9) (N := some 14) (v := ?_) (a' := ?_) (Ya 31 1023) rfl rfl (take_ofW HT_.out HW_.out (by kernel_rfl)) (fun _ _ _ h => h) (Or.inl ⟨by rfl, ?_⟩) hHeld ?_ ?_
    rotate_left
    ·rintro w' ⟨s0, s1, s2, s3, s4, s5, s6, s7, s8⟩
     go_simp
     with_reducible rfl
    rotate_left
    ·simp only [Act.put, List.setIfInBounds_toArray, List.set_cons_zero, List.set_cons_succ, i64_w, i32_w]
     rfl
    refine one_ (i := 10) (N := some 15) (Ya 31 2047) rfl rfl (one_of HT_.out (by kernel_rfl)) (by decide) (fun K hK => ?_)
    refine goes_ Tryz.func36 (by kernel_rfl) rfl #[.int .i64 2, .slice A185_0 (rd_L5 l0_0 2).length c185_0, .int .i64 a1_3] (by rfl) rfl rfl (by (try simp only [List.map_toArray, List.map_cons, List.map_nil]); first | done | rfl | (simp only [List.length_drop, List.length_take]; rfl)) ?_
    with_reducible refine (spec_Has.calls k 2 _ _ (rd_L5 l0_0 2) a1_3 false _ ?side1 ?side2 A6.out).mono ?_
    (case side1 => repeat (first | exact (Kd.C_below HR185_0.out HB.out) | (with_reducible refine Kd.C_alloc ?_ _) | (with_reducible refine Kd.C_drewN ?_ _) | (with_reducible refine Kd.C_drew ?_)))
    (case side2 => exact HC185_0.out)
    rintro e w30 ⟨rfl, hb⟩
    refine ⟨_, rfl, ?_⟩
    have n0_ := Aside0.mk (blk_below (g := gb182) (o := .cells #[.slice (some ad185) l0_0.length c0_0, .bool a0_1] 30 (0, 0)) (by (with_reducible repeat (first | refine blk_drewN ?_ _ | refine blk_drew ?_ | refine blk_alloc ?_ _)); exact BK182.out) hb)
    have n1_ := Aside0.mk (blk_below (g := gb183) (o := .cells #[.int .i64 a1_0, .int .i64 a1_1, .int .i64 a1_2, .int .i64 a1_3, .int .i64 a1_4, .int .i64 a1_5] 43 (0, 0)) (by (with_reducible repeat (first | refine blk_drewN ?_ _ | refine blk_drew ?_ | refine blk_alloc ?_ _)); exact BK183.out) hb)
    have n2_ := Aside0.mk (below_step (by repeat (first | (with_reducible first | exact HB.out | apply below_alloc | apply pw_below_drewN | apply below_drew1 | refine below_set ?_ GE182.out | refine below_set ?_ GE183.out) | exact HB.out)) hb)
    clear BK182
    clear BK183
    clear HB
    have BK182 := n0_
    have BK183 := n1_
    have HB := n2_
    clear n0_ n1_ n2_
    (try clear hb)
    (try clear hb2)
    (try clear hk)
    (try clear hi)
    refine hK.out _ _ ⟨(blk_cell BK182.out 0).trans rfl, (blk_cell BK182.out 1).trans rfl, (blk_cell BK183.out 0).trans rfl, (blk_cell BK183.out 1).trans rfl, (blk_cell BK183.out 2).trans rfl, (blk_cell BK183.out 3).trans rfl, (blk_cell BK183.out 4).trans rfl, (blk_cell BK183.out 5).trans rfl, ((HB.out.cell (World.block_lt_of_cell? w _ hw185_0)).trans hw185_0)⟩ (fun hHeld => ?_)
    clear hK K
    refine norm_ (a' := ?_) ?_ ?_
    rotate_left
    ·show Act.put _ (some 15) _ = _
     simp only [Act.put, List.setIfInBounds_toArray, List.set_cons_zero, List.set_cons_succ, i64_w, i32_w]
     rfl
    refine pure_ (i := 11) (N := some 16) (v := ?_) (a' := ?_) (Ya 31 4095) rfl rfl (any_of HT_.out (by kernel_rfl)) (fun _ _ _ h => h) (Or.inl ⟨by rfl, ?_⟩) ?_ ?_
    rotate_left
    ·intro w'
     go_simp
     with_reducible rfl
    rotate_left
    ·simp only [Act.put, List.setIfInBounds_toArray, List.set_cons_zero, List.set_cons_succ, i64_w, i32_w]
     rfl
    refine pure_ (i := 12) (N := some 17) (v := ?_) (a' := ?_) (Ya 31 8191) rfl rfl (any_of HT_.out (by kernel_rfl)) (fun _ _ _ h => h) (Or.inl ⟨by rfl, ?_⟩) ?_ ?_
    rotate_left
    ·intro w'
     go_simp
     with_reducible rfl
    rotate_left
    ·simp only [Act.put, List.setIfInBounds_toArray, List.set_cons_zero, List.set_cons_succ, i64_w, i32_w]
     rfl
    refine pure_ (i := 13) (N := some 18) (v := undef) (a' := ?_) (Ya 31 16383) rfl rfl (any_of HT_.out (by kernel_rfl)) (fun _ _ _ h => h) (Or.inr ⟨by rfl, rfl⟩) ?_ ?_
    rotate_left
    ·simp only [Act.put, List.setIfInBounds_toArray, List.set_cons_zero, List.set_cons_succ, i64_w, i32_w]
     rfl
    refine pure_ (i := 14) (N := some 19) (v := undef) (a' := ?_) (Ya 31 32767) rfl rfl (any_of HT_.out (by kernel_rfl)) (fun _ _ _ h => h) (Or.inr ⟨by rfl, rfl⟩) ?_ ?_
    rotate_left
    ·simp only [Act.put, List.setIfInBounds_toArray, List.set_cons_zero, List.set_cons_succ, i64_w, i32_w]
     rfl
    refine pure_ (i := 15) (N := some 20) (v := undef) (a' := ?_) (Ya 31 65535) rfl rfl (any_of HT_.out (by kernel_rfl)) (fun _ _ _ h => h) (Or.inr ⟨by rfl, rfl⟩) ?_ ?_
    rotate_left
    ·simp only [Act.put, List.setIfInBounds_toArray, List.set_cons_zero, List.set_cons_succ, i64_w, i32_w]
     rfl
    refine pure_ (i := 16) (N := some 21) (v := undef) (a' := ?_) (Ya 31 131071) rfl rfl (any_of HT_.out (by kernel_rfl)) (fun _ _ _ h => h) (Or.inr ⟨by rfl, rfl⟩) ?_ ?_
    rotate_left
    ·simp only [Act.put, List.setIfInBounds_toArray, List.set_cons_zero, List.set_cons_succ, i64_w, i32_w]
     rfl
    refine pure_ (i := 17) (N := some 22) (v := undef) (a' := ?_) (Ya 31 262143) rfl rfl (any_of HT_.out (by kernel_rfl)) (fun _ _ _ h => h) (Or.inr ⟨by rfl, rfl⟩) ?_ ?_
    rotate_left
    ·simp only [Act.put, List.setIfInBounds_toArray, List.set_cons_zero, List.set_cons_succ, i64_w, i32_w]
     rfl
    refine pure_ (i := 18) (N := some 23) (v := undef) (a' := ?_) (Ya 31 524287) rfl rfl (any_of HT_.out (by kernel_rfl)) (fun _ _ _ h => h) (Or.inr ⟨by rfl, rfl⟩) ?_ ?_
    rotate_left
    ·simp only [Act.put, List.setIfInBounds_toArray, List.set_cons_zero, List.set_cons_succ, i64_w, i32_w]
     rfl
    refine pure_ (i := 19) (N := some 24) (v := undef) (a' := ?_) (Ya 31 1048575) rfl rfl (any_of HT_.out (by kernel_rfl)) (fun _ _ _ h => h) (Or.inr ⟨by rfl, rfl⟩) ?_ ?_
    rotate_left
    ·simp only [Act.put, List.setIfInBounds_toArray, List.set_cons_zero, List.set_cons_succ, i64_w, i32_w]
     rfl
    refine pure_ (i := 20) (N := some 25) (v := ?_) (a' := ?_) (Ya 31 2097151) rfl rfl (any_of HT_.out (by kernel_rfl)) (fun _ _ _ h => h) (Or.inl ⟨by rfl, ?_⟩) ?_ ?_
    rotate_left
    ·intro w'
     go_simp
     with_reducible rfl
    rotate_left
    ·simp only [Act.put, List.setIfInBounds_toArray, List.set_cons_zero, List.set_cons_succ, i64_w, i32_w]
     rfl
    refine pure_ (i := 21) (N := some 26) (v := ?_) (a' := ?_) (Ya 31 4194303) rfl rfl (any_of HT_.out (by kernel_rfl)) (fun _ _ _ h => h) (Or.inl ⟨by rfl, ?_⟩) ?_ ?_
    rotate_left
    ·intro w'
     go_simp
     with_reducible rfl
    rotate_left
    ·simp only [Act.put, List.setIfInBounds_toArray, List.set_cons_zero, List.set_cons_succ, i64_w, i32_w]
     rfl
    refine pure_ (i := 22) (N := some 27) (v := undef) (a' := ?_) (Ya 31 8388607) rfl rfl (any_of HT_.out (by kernel_rfl)) (fun _ _ _ h => h) (Or.inr ⟨by rfl, rfl⟩) ?_ ?_
    rotate_left
    ·simp only [Act.put, List.setIfInBounds_toArray, List.set_cons_zero, List.set_cons_succ, i64_w, i32_w]
     rfl
    refine pure_ (i := 23) (N := some 28) (v := undef) (a' := ?_) (Ya 31 16777215) rfl rfl (any_of HT_.out (by kernel_rfl)) (fun _ _ _ h => h) (Or.inr ⟨by rfl, rfl⟩) ?_ ?_
    rotate_left
    ·simp only [Act.put, List.setIfInBounds_toArray, List.set_cons_zero, List.set_cons_succ, i64_w, i32_w]
     rfl
    refine pure_ (i := 24) (N := some 29) (v := undef) (a' := ?_) (Ya 31 33554431) rfl rfl (any_of HT_.out (by kernel_rfl)) (fun _ _ _ h => h) (Or.inr ⟨by rfl, rfl⟩) ?_ ?_
    rotate_left
    ·simp only [Act.put, List.setIfInBounds_toArray, List.set_cons_zero, List.set_cons_succ, i64_w, i32_w]
     rfl
    refine pure_ (i := 25) (N := some 30) (v := undef) (a' := ?_) (Ya 31 67108863) rfl rfl (any_of HT_.out (by kernel_rfl)) (fun _ _ _ h => h) (Or.inr ⟨by rfl, rfl⟩) ?_ ?_
    rotate_left
    ·simp only [Act.put, List.setIfInBounds_toArray, List.set_cons_zero, List.set_cons_succ, i64_w, i32_w]
     rfl
    refine pure_ (i := 26) (N := some 31) (v := undef) (a' := ?_) (Ya 31 134217727) rfl rfl (any_of HT_.out (by kernel_rfl)) (fun _ _ _ h => h) (Or.inr ⟨by rfl, rfl⟩) ?_ ?_
    rotate_left
    ·simp only [Act.put, List.setIfInBounds_toArray, List.set_cons_zero, List.set_cons_succ, i64_w, i32_w]
     rfl
    refine pure_ (i := 27) (N := some 32) (v := undef) (a' := ?_) (Ya 31 268435455) rfl rfl (any_of HT_.out (by kernel_rfl)) (fun _ _ _ h => h) (Or.inr ⟨by rfl, rfl⟩) ?_ ?_
    rotate_left
    ·simp only [Act.put, List.setIfInBounds_toArray, List.set_cons_zero, List.set_cons_succ, i64_w, i32_w]
     rfl
    refine pure_ (i := 28) (N := some 33) (v := undef) (a' := ?_) (Ya 31 536870911) rfl rfl (any_of HT_.out (by kernel_rfl)) (fun _ _ _ h => h) (Or.inr ⟨by rfl, rfl⟩) ?_ ?_
    rotate_left
    ·simp only [Act.put, List.setIfInBounds_toArray, List.set_cons_zero, List.set_cons_succ, i64_w, i32_w]
     rfl
    refine pure_ (i := 29) (N := some 34) (v := ?_) (a' := ?_) (Ya 31 1073741823) rfl rfl (any_of HT_.out (by kernel_rfl)) (fun _ _ _ h => h) (Or.inl ⟨by rfl, ?_⟩) ?_ ?_
    rotate_left
    ·intro w'
     go_simp
     with_reducible rfl
    rotate_left
    ·simp only [Act.put, List.setIfInBounds_toArray, List.set_cons_zero, List.set_cons_succ, i64_w, i32_w]
     rfl
    refine pure_ (i := 30) (N := some 4) (v := ?_) (a' := ?_) (Ya 31 2147483647) rfl rfl (any_of HT_.out (by kernel_rfl)) (fun _ _ _ h => h) (Or.inl ⟨by rfl, ?_⟩) ?_ ?_
    rotate_left
    ·intro w'
     go_simp
     with_reducible rfl
    rotate_left
    ·simp only [Act.put, List.setIfInBounds_toArray, List.set_cons_zero, List.set_cons_succ, i64_w, i32_w]
     rfl
    refine done_ (done_of HT_.out (by kernel_rfl)) ?_
    try go_wp2
    go_ret
    exact ⟨by first | rfl | (simp [errW_none, errW_some] <;> rfl) | (simp [*, errW_none, errW_some] <;> rfl), by repeat (first | (with_reducible first | exact HB.out | apply below_alloc | apply pw_below_drewN | apply below_drew1 | refine below_set ?_ GE182.out | refine below_set ?_ GE183.out) | exact HB.out)⟩
  ·rw [if_neg c5] at H
   exact absurd H (by simp)
 ·replace c4 := Bool.eq_false_iff.mpr c4
  subst c4
  have H1 : (some false) = some r := by rw [if_neg (show ¬ (false = true) by decide)] at H; exact H
  clear H
  have H := H1
  clear H1
  obtain rfl := Option.some.inj H
  go_enter Tryz.func18, Tryz.ntmps18
  try go_wp2_with (first | ((with_reducible refine gate_dst (N := 2) rfl ?_); refine box_event ?hg (N := 2) ?hd (cs := #[.slice A0_0 l0_0.length c0_0, .bool a0_1]) (t := 30) ?hr ?_; (case hd => rfl); (case hg => rfl); (case hr => first | (go_simp; done) | (go_simp; rfl)); intro gb182 hg w31 hbox hb; have n0_ := Aside0.mk (below_step (by repeat (first | (with_reducible first | exact HB.out | apply below_alloc | apply pw_below_drewN | apply below_drew1) | exact HB.out)) hb); have n1_ := Aside0.mk (hbox); have n2_ := Aside0.mk ((by rw [hg]; exact (below_size (by repeat (first | (with_reducible first | exact HB.out | apply below_alloc | apply pw_below_drewN | apply below_drew1) | exact HB.out))) : w.heap.size ≤ gb182)); have n3_ := Aside0.mk ((by rw [hg]; exact (below_size (by repeat (first | (with_reducible first | exact HB.out | apply below_alloc | apply pw_below_drewN | apply below_drew1) | exact HB.out))) : w.heap.size ≤ gb182)); clear HB; have HB := n0_; have BK182 := n1_; have GW182 := n2_; have GE182 := n3_; clear n0_ n1_ n2_ n3_; clear hb hbox hg) | ((with_reducible refine gate_dst (N := 3) rfl ?_); refine box_event ?hg (N := 3) ?hd (cs := #[.int .i64 a1_0, .int .i64 a1_1, .int .i64 a1_2, .int .i64 a1_3, .int .i64 a1_4, .int .i64 a1_5]) (t := 43) ?hr ?_; (case hd => rfl); (case hg => rfl); (case hr => first | (go_simp; done) | (go_simp; rfl)); intro gb183 hg w32 hbox hb; have n0_ := Aside0.mk (blk_below (g := gb182) (o := .cells #[.slice A0_0 l0_0.length c0_0, .bool a0_1] 30 (0, 0)) (by (with_reducible repeat (first | refine blk_drewN ?_ _ | refine blk_drew ?_ | refine blk_alloc ?_ _)); exact BK182.out) hb); have n1_ := Aside0.mk (below_step (by repeat (first | (with_reducible first | exact HB.out | apply below_alloc | apply pw_below_drewN | apply below_drew1 | refine below_set ?_ GE182.out) | exact HB.out)) hb); have n2_ := Aside0.mk (hbox); have n3_ := Aside0.mk ((by rw [hg]; exact (below_size (by repeat (first | (with_reducible first | exact HB.out | apply below_alloc | apply pw_below_drewN | apply below_drew1 | refine below_set ?_ GE182.out) | exact HB.out))) : w.heap.size ≤ gb183)); have n4_ := Aside0.mk ((by rw [hg]; exact (below_size (by repeat (first | (with_reducible first | exact HB.out | apply below_alloc | apply pw_below_drewN | apply below_drew1 | refine below_set ?_ GE182.out) | exact HB.out))) : w.heap.size ≤ gb183)); have n5_ := Aside0.mk ((by rw [hg]; exact Nat.ne_of_lt (blk_lt (g := gb182) (o := .cells #[.slice A0_0 l0_0.length c0_0, .bool a0_1] 30 (0, 0)) (by (with_reducible repeat (first | refine blk_drewN ?_ _ | refine blk_drew ?_ | refine blk_alloc ?_ _)); exact BK182.out)) : gb182 ≠ gb183)); have n6_ := Aside0.mk ((by rw [hg]; exact Nat.ne_of_gt (blk_lt (g := gb182) (o := .cells #[.slice A0_0 l0_0.length c0_0, .bool a0_1] 30 (0, 0)) (by (with_reducible repeat (first | refine blk_drewN ?_ _ | refine blk_drew ?_ | refine blk_alloc ?_ _)); exact BK182.out)) : gb183 ≠ gb182)); clear BK182; clear HB; have BK182 := n0_; have HB := n1_; have BK183 := n2_; have GW183 := n3_; have GE183 := n4_; have NB182_183 := n5_; have NB183_182 := n6_; clear n0_ n1_ n2_ n3_ n4_ n5_ n6_; clear hb hbox hg))
  have n0_ := Aside0.mk (blk_drew BK182.out)
  have n1_ := Aside0.mk (blk_drew BK183.out)
  have n2_ := Aside0.mk (below_drew1 HB.out)
  clear BK182
  clear BK183
  clear HB
  have BK182 := n0_
  have BK183 := n1_
  have HB := n2_
  clear n0_ n1_ n2_
  refine start_ (n := 31) (S := fun w' => w'.cell? ⟨gb182, 0, none⟩ = some (.slice A0_0 l0_0.length c0_0) ∧ w'.cell? ⟨gb182, 1, none⟩ = some (.bool a0_1) ∧ w'.cell? ⟨gb183, 0, none⟩ = some (.int .i64 a1_0) ∧ w'.cell? ⟨gb183, 1, none⟩ = some (.int .i64 a1_1) ∧ w'.cell? ⟨gb183, 2, none⟩ = some (.int .i64 a1_2) ∧ w'.cell? ⟨gb183, 3, none⟩ = some (.int .i64 a1_3) ∧ w'.cell? ⟨gb183, 4, none⟩ = some (.int .i64 a1_4) ∧ w'.cell? ⟨gb183, 5, none⟩ = some (.int .i64 a1_5)) (ds := []) (Ya 31 0) (by kernel_rfl) rfl rfl ⟨(blk_cell BK182.out 0).trans rfl, (blk_cell BK182.out 1).trans rfl, (blk_cell BK183.out 0).trans rfl, (blk_cell BK183.out 1).trans rfl, (blk_cell BK183.out 2).trans rfl, (blk_cell BK183.out 3).trans rfl, (blk_cell BK183.out 4).trans rfl, (blk_cell BK183.out 5).trans rfl⟩ (fun hHeld => ?_); refine with_tabW spec_Fits.tab1 spec_Fits.bits1 (fun HT_ HW_ => ?_)
  generalize w32.drew = w33 at BK182 BK183 HB hHeld ⊢
  refine take_ (i := 0) (N := some 5) (v := ?_) (a' := ?_) (Ya 31 1) rfl rfl (take_ofW HT_.out HW_.out (by kernel_rfl)) (fun _ _ _ h => h) (Or.inl ⟨by rfl, ?_⟩) hHeld ?_ ?_
  rotate_left
  ·rintro w' ⟨s0, s1, s2, s3, s4, s5, s6, s7⟩
   go_simp
   with_reducible rfl
  rotate_left
  ·simp only [Act.put, List.setIfInBounds_toArray, List.set_cons_zero, List.set_cons_succ, i64_w, i32_w]
   rfl
  refine take_ (i := 1) (N := some 6) (v := ?_) (a' := ?_) (Ya 31 3) rfl rfl (take_ofW HT_.out HW_.out (by kernel_rfl)) (fun _ _ _ h => h) (Or.inl ⟨by rfl, ?_⟩) hHeld ?_ ?_
  rotate_left
  ·rintro w' ⟨s0, s1, s2, s3, s4, s5, s6, s7⟩
   go_simp
   with_reducible rfl
  rotate_left
  ·simp only [Act.put, List.setIfInBounds_toArray, List.set_cons_zero, List.set_cons_succ, i64_w, i32_w]
   rfl
  refine one_ (i := 2) (N := some 7) (Ya 31 7) rfl rfl (one_of HT_.out (by kernel_rfl)) (by decide) (fun K hK => ?_)
  refine goes_ Tryz.func35 (by kernel_rfl) rfl #[.agg #[.slice A0_0 l0_0.length c0_0, .bool a0_1], .agg #[.int .i64 a1_0, .int .i64 a1_1, .int .i64 a1_2, .int .i64 a1_3, .int .i64 a1_4, .int .i64 a1_5]] (by rfl) rfl rfl (by (try simp only [List.map_toArray, List.map_cons, List.map_nil]); first | done | rfl | (simp only [List.length_drop, List.length_take]; rfl)) ?_
  with_reducible refine (spec_DayFits.calls k _ _ l0_0 a0_1 a1_0 a1_1 a1_2 a1_3 a1_4 a1_5 false _ ?side1 ?side2 A3.out).mono ?_
  (case side1 => repeat (first | exact (Kd.C_below HR0_0.out HB.out) | (with_reducible refine Kd.C_alloc ?_ _) | (with_reducible refine Kd.C_drewN ?_ _) | (with_reducible refine Kd.C_drew ?_)))
  (case side2 => exact HC0_0.out)
  rintro e w34 ⟨rfl, hb⟩
  refine ⟨_, rfl, ?_⟩
  have n0_ := Aside0.mk (blk_below (g := gb182) (o := .cells #[.slice A0_0 l0_0.length c0_0, .bool a0_1] 30 (0, 0)) (by (with_reducible repeat (first | refine blk_drewN ?_ _ | refine blk_drew ?_ | refine blk_alloc ?_ _)); exact BK182.out) hb)
  have n1_ := Aside0.mk (blk_below (g := gb183) (o := .cells #[.int .i64 a1_0, .int .i64 a1_1, .int .i64 a1_2, .int .i64 a1_3, .int .i64 a1_4, .int .i64 a1_5] 43 (0, 0)) (by (with_reducible repeat (first | refine blk_drewN ?_ _ | refine blk_drew ?_ | refine blk_alloc ?_ _)); exact BK183.out) hb)
  have n2_ := Aside0.mk (below_step (by repeat (first | (with_reducible first | exact HB.out | apply below_alloc | apply pw_below_drewN | apply below_drew1 | refine below_set ?_ GE182.out | refine below_set ?_ GE183.out) | exact HB.out)) hb)
  clear BK182
  clear BK183
  clear HB
  have BK182 := n0_
  have BK183 := n1_
  have HB := n2_
  clear n0_ n1_ n2_
  (try clear hb)
  (try clear hb2)
  (try clear hk)
  (try clear hi)
  refine hK.out _ _ ⟨(blk_cell BK182.out 0).trans rfl, (blk_cell BK182.out 1).trans rfl, (blk_cell BK183.out 0).trans rfl, (blk_cell BK183.out 1).trans rfl, (blk_cell BK183.out 2).trans rfl, (blk_cell BK183.out 3).trans rfl, (blk_cell BK183.out 4).trans rfl, (blk_cell BK183.out 5).trans rfl⟩ (fun hHeld => ?_)
  clear hK K
  refine norm_ (a' := ?_) ?_ ?_
  rotate_left
  ·show Act.put _ (some 7) _ = _
   simp only [Act.put, List.setIfInBounds_toArray, List.set_cons_zero, List.set_cons_succ, i64_w, i32_w]
   rfl
  refine pure_ (i := 3) (N := some 8) (v := ?_) (a' := ?_) (Ya 31 15) rfl rfl (any_of HT_.out (by kernel_rfl)) (fun _ _ _ h => h) (Or.inl ⟨by rfl, ?_⟩) ?_ ?_
  rotate_left
  ·intro w'
   go_simp
   with_reducible rfl
  rotate_left
  ·simp only [Act.put, List.setIfInBounds_toArray, List.set_cons_zero, List.set_cons_succ, i64_w, i32_w]
   rfl
  refine pure_ (i := 4) (N := some 9) (v := undef) (a' := ?_) (Ya 31 31) rfl rfl (any_of HT_.out (by kernel_rfl)) (fun _ _ _ h => h) (Or.inr ⟨by rfl, rfl⟩) ?_ ?_
  rotate_left
  ·simp only [Act.put, List.setIfInBounds_toArray, List.set_cons_zero, List.set_cons_succ, i64_w, i32_w]
   rfl
  refine pure_ (i := 5) (N := some 10) (v := undef) (a' := ?_) (Ya 31 63) rfl rfl (any_of HT_.out (by kernel_rfl)) (fun _ _ _ h => h) (Or.inr ⟨by rfl, rfl⟩) ?_ ?_
  rotate_left
  ·simp only [Act.put, List.setIfInBounds_toArray, List.set_cons_zero, List.set_cons_succ, i64_w, i32_w]
   rfl
  refine pure_ (i := 6) (N := some 11) (v := undef) (a' := ?_) (Ya 31 127) rfl rfl (any_of HT_.out (by kernel_rfl)) (fun _ _ _ h => h) (Or.inr ⟨by rfl, rfl⟩) ?_ ?_
  rotate_left
  ·simp only [Act.put, List.setIfInBounds_toArray, List.set_cons_zero, List.set_cons_succ, i64_w, i32_w]
   rfl
  refine pure_ (i := 7) (N := some 12) (v := undef) (a' := ?_) (Ya 31 255) rfl rfl (any_of HT_.out (by kernel_rfl)) (fun _ _ _ h => h) (Or.inr ⟨by rfl, rfl⟩) ?_ ?_
  rotate_left
  ·simp only [Act.put, List.setIfInBounds_toArray, List.set_cons_zero, List.set_cons_succ, i64_w, i32_w]
   rfl
  refine pure_ (i := 8) (N := some 13) (v := undef) (a' := ?_) (Ya 31 511) rfl rfl (any_of HT_.out (by kernel_rfl)) (fun _ _ _ h => h) (Or.inr ⟨by rfl, rfl⟩) ?_ ?_
  rotate_left
  ·simp only [Act.put, List.setIfInBounds_toArray, List.set_cons_zero, List.set_cons_succ, i64_w, i32_w]
   rfl
  refine pure_ (i := 9) (N := some 14) (v := undef) (a' := ?_) (Ya 31 1023) rfl rfl (any_of HT_.out (by kernel_rfl)) (fun _ _ _ h => h) (Or.inr ⟨by rfl, rfl⟩) ?_ ?_
  rotate_left
  ·simp only [Act.put, List.setIfInBounds_toArray, List.set_cons_zero, List.set_cons_succ, i64_w, i32_w]
   rfl
  refine pure_ (i := 10) (N := some 15) (v := undef) (a' := ?_) (Ya 31 2047) rfl rfl (any_of HT_.out (by kernel_rfl)) (fun _ _ _ h => h) (Or.inr ⟨by rfl, rfl⟩) ?_ ?_
  rotate_left
  ·simp only [Act.put, List.setIfInBounds_toArray, List.set_cons_zero, List.set_cons_succ, i64_w, i32_w]
   rfl
  refine pure_ (i := 11) (N := some 16) (v := ?_) (a' := ?_) (Ya 31 4095) rfl rfl (any_of HT_.out (by kernel_rfl)) (fun _ _ _ h => h) (Or.inl ⟨by rfl, ?_⟩) ?_ ?_
  rotate_left
  ·intro w'
   go_simp
   with_reducible rfl
  rotate_left
  ·simp only [Act.put, List.setIfInBounds_toArray, List.set_cons_zero, List.set_cons_succ, i64_w, i32_w]
   rfl
  refine pure_ (i := 12) (N := some 17) (v := ?_) (a' := ?_) (Ya 31 8191) rfl rfl (any_of HT_.out (by kernel_rfl)) (fun _ _ _ h => h) (Or.inl ⟨by rfl, ?_⟩) ?_ ?_
  rotate_left
  ·intro w'
   go_simp
   with_reducible rfl
  rotate_left
  ·simp only [Act.put, List.setIfInBounds_toArray, List.set_cons_zero, List.set_cons_succ, i64_w, i32_w]
   rfl
  refine pure_ (i := 13) (N := some 18) (v := undef) (a' := ?_) (Ya 31 16383) rfl rfl (any_of HT_.out (by kernel_rfl)) (fun _ _ _ h => h) (Or.inr ⟨by rfl, rfl⟩) ?_ ?_
  rotate_left
  ·simp only [Act.put, List.setIfInBounds_toArray, List.set_cons_zero, List.set_cons_succ, i64_w, i32_w]
   rfl
  refine pure_ (i := 14) (N := some 19) (v := undef) (a' := ?_) (Ya 31 32767) rfl rfl (any_of HT_.out (by kernel_rfl)) (fun _ _ _ h => h) (Or.inr ⟨by rfl, rfl⟩) ?_ ?_
  rotate_left
  ·simp only [Act.put, List.setIfInBounds_toArray, List.set_cons_zero, List.set_cons_succ, i64_w, i32_w]
   rfl
  refine pure_ (i := 15) (N := some 20) (v := undef) (a' := ?_) (Ya 31 65535) rfl rfl (any_of HT_.out (by kernel_rfl)) (fun _ _ _ h => h) (Or.inr ⟨by rfl, rfl⟩) ?_ ?_
  rotate_left
  ·simp only [Act.put, List.setIfInBounds_toArray, List.set_cons_zero, List.set_cons_succ, i64_w, i32_w]
   rfl
  refine pure_ (i := 16) (N := some 21) (v := undef) (a' := ?_) (Ya 31 131071) rfl rfl (any_of HT_.out (by kernel_rfl)) (fun _ _ _ h => h) (Or.inr ⟨by rfl, rfl⟩) ?_ ?_
  rotate_left
  ·simp only [Act.put, List.setIfInBounds_toArray, List.set_cons_zero, List.set_cons_succ, i64_w, i32_w]
   rfl
  refine pure_ (i := 17) (N := some 22) (v := undef) (a' := ?_) (Ya 31 262143) rfl rfl (any_of HT_.out (by kernel_rfl)) (fun _ _ _ h => h) (Or.inr ⟨by rfl, rfl⟩) ?_ ?_
  rotate_left
  ·simp only [Act.put, List.setIfInBounds_toArray, List.set_cons_zero, List.set_cons_succ, i64_w, i32_w]
   rfl
  refine pure_ (i := 18) (N := some 23) (v := undef) (a' := ?_) (Ya 31 524287) rfl rfl (any_of HT_.out (by kernel_rfl)) (fun _ _ _ h => h) (Or.inr ⟨by rfl, rfl⟩) ?_ ?_
  rotate_left
  ·simp only [Act.put, List.setIfInBounds_toArray, List.set_cons_zero, List.set_cons_succ, i64_w, i32_w]
   rfl
  refine pure_ (i := 19) (N := some 24) (v := undef) (a' := ?_) (Ya 31 1048575) rfl rfl (any_of HT_.out (by kernel_rfl)) (fun _ _ _ h => h) (Or.inr ⟨by rfl, rfl⟩) ?_ ?_
  rotate_left
  ·simp only [Act.put, List.setIfInBounds_toArray, List.set_cons_zero, List.set_cons_succ, i64_w, i32_w]
   rfl
  refine pure_ (i := 20) (N := some 25) (v := ?_) (a' := ?_) (Ya 31 2097151) rfl rfl (any_of HT_.out (by kernel_rfl)) (fun _ _ _ h => h) (Or.inl ⟨by rfl, ?_⟩) ?_ ?_
  rotate_left
  ·intro w'
   go_simp
   with_reducible rfl
  rotate_left
  ·simp only [Act.put, List.setIfInBounds_toArray, List.set_cons_zero, List.set_cons_succ, i64_w, i32_w]
   rfl
  refine pure_ (i := 21) (N := some 26) (v := ?_) (a' := ?_) (Ya 31 4194303) rfl rfl (any_of HT_.out (by kernel_rfl)) (fun _ _ _ h => h) (Or.inl ⟨by rfl, ?_⟩) ?_ ?_
  rotate_left
  ·intro w'
   go_simp
   with_reducible rfl
  rotate_left
  ·simp only [Act.put, List.setIfInBounds_toArray, List.set_cons_zero, List.set_cons_succ, i64_w, i32_w]
   rfl
  refine pure_ (i := 22) (N := some 27) (v := undef) (a' := ?_) (Ya 31 8388607) rfl rfl (any_of HT_.out (by kernel_rfl)) (fun _ _ _ h => h) (Or.inr ⟨by rfl, rfl⟩) ?_ ?_
  rotate_left
  ·simp only [Act.put, List.setIfInBounds_toArray, List.set_cons_zero, List.set_cons_succ, i64_w, i32_w]
   rfl
  refine pure_ (i := 23) (N := some 28) (v := undef) (a' := ?_) (Ya 31 16777215) rfl rfl (any_of HT_.out (by kernel_rfl)) (fun _ _ _ h => h) (Or.inr ⟨by rfl, rfl⟩) ?_ ?_
  rotate_left
  ·simp only [Act.put, List.setIfInBounds_toArray, List.set_cons_zero, List.set_cons_succ, i64_w, i32_w]
   rfl
  refine pure_ (i := 24) (N := some 29) (v := undef) (a' := ?_) (Ya 31 33554431) rfl rfl (any_of HT_.out (by kernel_rfl)) (fun _ _ _ h => h) (Or.inr ⟨by rfl, rfl⟩) ?_ ?_
  rotate_left
  ·simp only [Act.put, List.setIfInBounds_toArray, List.set_cons_zero, List.set_cons_succ, i64_w, i32_w]
   rfl
  refine pure_ (i := 25) (N := some 30) (v := undef) (a' := ?_) (Ya 31 67108863) rfl rfl (any_of HT_.out (by kernel_rfl)) (fun _ _ _ h => h) (Or.inr ⟨by rfl, rfl⟩) ?_ ?_
  rotate_left
  ·simp only [Act.put, List.setIfInBounds_toArray, List.set_cons_zero, List.set_cons_succ, i64_w, i32_w]
   rfl
  refine pure_ (i := 26) (N := some 31) (v := undef) (a' := ?_) (Ya 31 134217727) rfl rfl (any_of HT_.out (by kernel_rfl)) (fun _ _ _ h => h) (Or.inr ⟨by rfl, rfl⟩) ?_ ?_
  rotate_left
  ·simp only [Act.put, List.setIfInBounds_toArray, List.set_cons_zero, List.set_cons_succ, i64_w, i32_w]
   rfl
  refine pure_ (i := 27) (N := some 32) (v := undef) (a' := ?_) (Ya 31 268435455) rfl rfl (any_of HT_.out (by kernel_rfl)) (fun _ _ _ h => h) (Or.inr ⟨by rfl, rfl⟩) ?_ ?_
  rotate_left
  ·simp only [Act.put, List.setIfInBounds_toArray, List.set_cons_zero, List.set_cons_succ, i64_w, i32_w]
   rfl
  refine pure_ (i := 28) (N := some 33) (v := undef) (a' := ?_) (Ya 31 536870911) rfl rfl (any_of HT_.out (by kernel_rfl)) (fun _ _ _ h => h) (Or.inr ⟨by rfl, rfl⟩) ?_ ?_
  rotate_left
  ·simp only [Act.put, List.setIfInBounds_toArray, List.set_cons_zero, List.set_cons_succ, i64_w, i32_w]
   rfl
  refine pure_ (i := 29) (N := some 34) (v := ?_) (a' := ?_) (Ya 31 1073741823) rfl rfl (any_of HT_.out (by kernel_rfl)) (fun _ _ _ h => h) (Or.inl ⟨by rfl, ?_⟩) ?_ ?_
  rotate_left
  ·intro w'
   go_simp
   with_reducible rfl
  rotate_left
  ·simp only [Act.put, List.setIfInBounds_toArray, List.set_cons_zero, List.set_cons_succ, i64_w, i32_w]
   rfl
  refine pure_ (i := 30) (N := some 4) (v := ?_) (a' := ?_) (Ya 31 2147483647) rfl rfl (any_of HT_.out (by kernel_rfl)) (fun _ _ _ h => h) (Or.inl ⟨by rfl, ?_⟩) ?_ ?_
  rotate_left
  ·intro w'
   go_simp
   with_reducible rfl
  rotate_left
  ·simp only [Act.put, List.setIfInBounds_toArray, List.set_cons_zero, List.set_cons_succ, i64_w, i32_w]
   rfl
  refine done_ (done_of HT_.out (by kernel_rfl)) ?_
  try go_wp2
  go_ret
  exact ⟨by first | rfl | (simp [errW_none, errW_some] <;> rfl) | (simp [*, errW_none, errW_some] <;> rfl), by repeat (first | (with_reducible first | exact HB.out | apply below_alloc | apply pw_below_drewN | apply below_drew1 | refine below_set ?_ GE182.out | refine below_set ?_ GE183.out) | exact HB.out)⟩
def spec_Decimal.f : Nat → Int → Option (ByteArray)
 | 0, _ => none
 | k + 1, a0 => if a0 < 10 then (if 0 ≤ a0 then (if a0 ≤ (wrap64 (a0 + 1)) then (if (wrap64 (a0 + 1)) ≤ 10 then (some ((⟨#[48, 49, 50, 51, 52, 53, 54, 55, 56, 57]⟩ : ByteArray).extract (a0 : Int).toNat ((wrap64 (a0 + 1)) : Int).toNat)) else (none)) else (none)) else (none)) else ((spec_Decimal.f k (wrap64 (Int.tdiv a0 10))).bind fun t153 => ((spec_Decimal.f k (Int.tmod a0 10)).bind fun t154 => (if t153.size + t154.size ≤ 9223372036854775807 then (some (t153 ++ t154)) else (none))))
set_option maxHeartbeats 8000000 in
set_option maxRecDepth 100000 in
theorem spec_Decimal.calls (k : Nat) : ∀ (a0 : Int) (r : ByteArray) (w : World) (h : spec_Decimal.f k a0 = some r),
  Calls Tryz.prog 24 #[.int .i64 a0] w fun e w' => e = .returned (.string r) ∧ Drawn0 w w' := by
 induction k using Nat.strongRecOn with
 | _ k ih =>
 intro a0 r w h
 cases k with
 | zero => exact absurd h (by simp [spec_Decimal.f])
 | succ k =>
 simp only [spec_Decimal.f] at h
 have H : (if a0 < 10 then (if 0 ≤ a0 then (if a0 ≤ (wrap64 (a0 + 1)) then (if (wrap64 (a0 + 1)) ≤ 10 then (some ((⟨#[48, 49, 50, 51, 52, 53, 54, 55, 56, 57]⟩ : ByteArray).extract (a0 : Int).toNat ((wrap64 (a0 + 1)) : Int).toNat)) else (none)) else (none)) else (none)) else ((spec_Decimal.f k (wrap64 (Int.tdiv a0 10))).bind fun t153 => ((spec_Decimal.f k (Int.tmod a0 10)).bind fun t154 => (if t153.size + t154.size ≤ 9223372036854775807 then (some (t153 ++ t154)) else (none))))) = some r := h
 clear h
 by_cases c2 : a0 < 10
 ·rw [if_pos c2] at H
  have c2b0 : decide (a0 < 10) = true := decide_eq_true c2
  clear c2
  by_cases c3 : 0 ≤ a0
  ·rw [if_pos c3] at H
   have c3b0 := eq_true c3
   have c3b1 : decide (0 ≤ a0) = true := decide_eq_true c3
   clear c3
   by_cases c4 : a0 ≤ (wrap64 (a0 + 1))
   ·rw [if_pos c4] at H
    have c4b0 := eq_true c4
    have c4b1 : decide (a0 ≤ (wrap64 (a0 + 1))) = true := decide_eq_true c4
    by_cases c5 : (wrap64 (a0 + 1)) ≤ 10
    ·rw [if_pos c5] at H
     have c5b0 := eq_true c5
     have c5b1 : decide ((wrap64 (a0 + 1)) ≤ 10) = true := decide_eq_true c5
     obtain rfl := Option.some.inj H
     go_enter Tryz.func24, Tryz.ntmps24
     go_wp2
     go_ret
     exact ⟨by first | rfl | (simp; done) | (simp [*]; done), by repeat (first | exact Drawn0.refl _ | apply Drawn0.step)⟩
    ·rw [if_neg c5] at H
     exact absurd H (by simp)
   ·rw [if_neg c4] at H
    exact absurd H (by simp)
  ·rw [if_neg c3] at H
   exact absurd H (by simp)
 ·rw [if_neg c2] at H
  have c2b0 : decide (a0 < 10) = false := decide_eq_false c2
  clear c2
  replace H := Option.bind_eq_some_iff.mp H
  obtain ⟨t153, A60, H⟩ := H
  replace H : ((spec_Decimal.f k (Int.tmod a0 10)).bind fun t154 => (if t153.size + t154.size ≤ 9223372036854775807 then (some (t153 ++ t154)) else (none))) = some r := H
  have A6 := Aside0.mk A60
  clear A60
  replace H := Option.bind_eq_some_iff.mp H
  obtain ⟨t154, A70, H⟩ := H
  replace H : (if t153.size + t154.size ≤ 9223372036854775807 then (some (t153 ++ t154)) else (none)) = some r := H
  have A7 := Aside0.mk A70
  clear A70
  by_cases c8 : t153.size + t154.size ≤ 9223372036854775807
  ·rw [if_pos c8] at H
   have c8b0 := eq_true c8
   have c8b1 : decide (t153.size + t154.size ≤ 9223372036854775807) = true := decide_eq_true c8
   try have c8b2 : (9223372036854775807 < t153.size + t154.size) = False := eq_false (Nat.not_lt.2 c8)
   obtain rfl := Option.some.inj H
   go_enter Tryz.func24, Tryz.ntmps24
   go_wp2_with (first | ((with_reducible refine gate_callee (f := 24) rfl ?_); refine goesL_ (some 11) rfl rfl Tryz.func24 (by kernel_rfl) rfl #[.int .i64 (wrap64 (Int.tdiv a0 10))] rfl (by (try simp only [List.map_toArray, List.map_cons, List.map_nil]); first | done | rfl | (simp only [List.length_drop, List.length_take]; rfl)) ?_; (with_reducible refine (ih k (by omega) (wrap64 (Int.tdiv a0 10)) t153 _ A6.out).mono ?_); rintro e w' ⟨rfl, ⟨nd, rfl⟩⟩; refine ⟨_, rfl, ?_⟩) | ((with_reducible refine gate_callee (f := 24) rfl ?_); refine goesL_ (some 14) rfl rfl Tryz.func24 (by kernel_rfl) rfl #[.int .i64 (Int.tmod a0 10)] rfl (by (try simp only [List.map_toArray, List.map_cons, List.map_nil]); first | done | rfl | (simp only [List.length_drop, List.length_take]; rfl)) ?_; (with_reducible refine (ih k (by omega) (Int.tmod a0 10) t154 _ A7.out).mono ?_); rintro e w' ⟨rfl, ⟨nd, rfl⟩⟩; refine ⟨_, rfl, ?_⟩))
   go_ret
   exact ⟨by first | rfl | (simp; done) | (simp [*]; done), by repeat (first | exact Drawn0.refl _ | apply Drawn0.step)⟩
  ·rw [if_neg c8] at H
   exact absurd H (by simp)
def spec_ItemText.j0 : Nat → ByteArray → Bool → Bool → Int → Int → Int → Option (ByteArray)
 | 0, _, _, _, _, _, _ => none
 | k + 1, x3, x19, x156000, x156001, x156002, x156003 => if x19 = true then ((spec_Decimal.f k x156002).bind fun t158 => (if 1 + t158.size ≤ 9223372036854775807 then (if x3.size + ((⟨#[45]⟩ : ByteArray) ++ t158).size ≤ 9223372036854775807 then (if x156003 > 1 then ((spec_Decimal.f k x156003).bind fun t159 => (if 1 + t159.size ≤ 9223372036854775807 then (if (x3 ++ ((⟨#[45]⟩ : ByteArray) ++ t158)).size + ((⟨#[47]⟩ : ByteArray) ++ t159).size ≤ 9223372036854775807 then (some ((x3 ++ ((⟨#[45]⟩ : ByteArray) ++ t158)) ++ ((⟨#[47]⟩ : ByteArray) ++ t159))) else (none)) else (none))) else (some (x3 ++ ((⟨#[45]⟩ : ByteArray) ++ t158)))) else (none)) else (none))) else (if x156003 > 1 then ((spec_Decimal.f k x156003).bind fun t160 => (if 1 + t160.size ≤ 9223372036854775807 then (if x3.size + ((⟨#[47]⟩ : ByteArray) ++ t160).size ≤ 9223372036854775807 then (some (x3 ++ ((⟨#[47]⟩ : ByteArray) ++ t160))) else (none)) else (none))) else (some x3))
def spec_ItemText.f (k : Nat) (a0_0 : Bool) (a0_1 : Int) (a0_2 : Int) (a0_3 : Int) : Option (ByteArray) := if a0_0 = true then (if a0_3 > 1 then ((spec_Decimal.f k a0_3).bind fun t156 => (if 1 + t156.size ≤ 9223372036854775807 then (if 1 + ((⟨#[47]⟩ : ByteArray) ++ t156).size ≤ 9223372036854775807 then (some ((⟨#[42]⟩ : ByteArray) ++ ((⟨#[47]⟩ : ByteArray) ++ t156))) else (none)) else (none))) else (some (⟨#[42]⟩ : ByteArray))) else ((spec_Decimal.f k a0_1).bind fun t157 => (if a0_2 > a0_1 then (spec_ItemText.j0 k t157 true a0_0 a0_1 a0_2 a0_3) else (spec_ItemText.j0 k t157 (decide (a0_3 > 1)) a0_0 a0_1 a0_2 a0_3)))
set_option maxHeartbeats 8000000 in
set_option maxRecDepth 100000 in
theorem spec_ItemText.calls (k : Nat) (a0_0 : Bool) (a0_1 : Int) (a0_2 : Int) (a0_3 : Int) (r : ByteArray) (w : World) (h : spec_ItemText.f k a0_0 a0_1 a0_2 a0_3 = some r) :
  Calls Tryz.prog 34 #[.agg #[.bool a0_0, .int .i64 a0_1, .int .i64 a0_2, .int .i64 a0_3]] w fun e w' => e = .returned (.string r) ∧ Below w.heap.size w w' := by
 have hu38 := Tryz.underlying38
 have HB := Aside0.mk (Below.refl w.heap.size w)
 have H : (if a0_0 = true then (if a0_3 > 1 then ((spec_Decimal.f k a0_3).bind fun t156 => (if 1 + t156.size ≤ 9223372036854775807 then (if 1 + ((⟨#[47]⟩ : ByteArray) ++ t156).size ≤ 9223372036854775807 then (some ((⟨#[42]⟩ : ByteArray) ++ ((⟨#[47]⟩ : ByteArray) ++ t156))) else (none)) else (none))) else (some (⟨#[42]⟩ : ByteArray))) else ((spec_Decimal.f k a0_1).bind fun t157 => (if a0_2 > a0_1 then (spec_ItemText.j0 k t157 true a0_0 a0_1 a0_2 a0_3) else (spec_ItemText.j0 k t157 (decide (a0_3 > 1)) a0_0 a0_1 a0_2 a0_3)))) = some r := h
 clear h
 by_cases c2 : a0_0 = true
 ·subst c2
  have H1 : (if a0_3 > 1 then ((spec_Decimal.f k a0_3).bind fun t156 => (if 1 + t156.size ≤ 9223372036854775807 then (if 1 + ((⟨#[47]⟩ : ByteArray) ++ t156).size ≤ 9223372036854775807 then (some ((⟨#[42]⟩ : ByteArray) ++ ((⟨#[47]⟩ : ByteArray) ++ t156))) else (none)) else (none))) else (some (⟨#[42]⟩ : ByteArray))) = some r := by rw [if_pos rfl] at H; exact H
  clear H
  have H := H1
  clear H1
  by_cases c3 : a0_3 > 1
  ·rw [if_pos c3] at H
   have c3b0 : decide (1 < a0_3) = true := decide_eq_true c3
   clear c3
   replace H := Option.bind_eq_some_iff.mp H
   obtain ⟨t156, A40, H⟩ := H
   replace H : (if 1 + t156.size ≤ 9223372036854775807 then (if 1 + ((⟨#[47]⟩ : ByteArray) ++ t156).size ≤ 9223372036854775807 then (some ((⟨#[42]⟩ : ByteArray) ++ ((⟨#[47]⟩ : ByteArray) ++ t156))) else (none)) else (none)) = some r := H
   have A4 := Aside0.mk A40
   clear A40
   by_cases c5 : 1 + t156.size ≤ 9223372036854775807
   ·rw [if_pos c5] at H
    have c5b0 := eq_true c5
    have c5b1 : decide (1 + t156.size ≤ 9223372036854775807) = true := decide_eq_true c5
    try have c5b2 : (9223372036854775807 < 1 + t156.size) = False := eq_false (Nat.not_lt.2 c5)
    by_cases c6 : 1 + ((⟨#[47]⟩ : ByteArray) ++ t156).size ≤ 9223372036854775807
    ·rw [if_pos c6] at H
     have c6b0 := eq_true c6
     have c6b1 : decide (1 + ((⟨#[47]⟩ : ByteArray) ++ t156).size ≤ 9223372036854775807) = true := decide_eq_true c6
     try have c6b2 : (9223372036854775807 < 1 + ((⟨#[47]⟩ : ByteArray) ++ t156).size) = False := eq_false (Nat.not_lt.2 c6)
     (try have c6b3 : (9223372036854775807 < 1 + (1 + t156.size)) = False := eq_false (Nat.not_lt.2 (by have h_ := c6; (try simp only [ByteArray.size_append] at h_); exact h_)))
     obtain rfl := Option.some.inj H
     go_enter Tryz.func34, Tryz.ntmps34
     go_wp2_with (first | ((with_reducible refine gate_dst (N := 1) rfl ?_); refine box_event ?hg (N := 1) ?hd (cs := #[.bool true, .int .i64 a0_1, .int .i64 a0_2, .int .i64 a0_3]) (t := 38) ?hr ?_; (case hd => rfl); (case hg => rfl); (case hr => first | (go_simp; done) | (go_simp; rfl)); intro gb155 hg w7 hbox hb; have n0_ := Aside0.mk (below_step (by repeat (first | (with_reducible first | exact HB.out | apply below_alloc | apply pw_below_drewN | apply below_drew1) | exact HB.out)) hb); have n1_ := Aside0.mk (hbox); have n2_ := Aside0.mk ((by rw [hg]; exact (below_size (by repeat (first | (with_reducible first | exact HB.out | apply below_alloc | apply pw_below_drewN | apply below_drew1) | exact HB.out))) : w.heap.size ≤ gb155)); have n3_ := Aside0.mk ((by rw [hg]; exact (below_size (by repeat (first | (with_reducible first | exact HB.out | apply below_alloc | apply pw_below_drewN | apply below_drew1) | exact HB.out))) : w.heap.size ≤ gb155)); clear HB; have HB := n0_; have BK155 := n1_; have GW155 := n2_; have GE155 := n3_; clear n0_ n1_ n2_ n3_; clear hb hbox hg; have hcz8_0 : w7.cell? ⟨gb155, 0, none⟩ = some (.bool true) := (blk_cell BK155.out 0).trans rfl; have hcz8_1 : w7.cell? ⟨gb155, 1, none⟩ = some (.int .i64 a0_1) := (blk_cell BK155.out 1).trans rfl; have hcz8_2 : w7.cell? ⟨gb155, 2, none⟩ = some (.int .i64 a0_2) := (blk_cell BK155.out 2).trans rfl; have hcz8_3 : w7.cell? ⟨gb155, 3, none⟩ = some (.int .i64 a0_3) := (blk_cell BK155.out 3).trans rfl; have hfz8_0 := blk_frozen BK155.out 0; have hfz8_1 := blk_frozen BK155.out 1; have hfz8_2 := blk_frozen BK155.out 2; have hfz8_3 := blk_frozen BK155.out 3) | ((with_reducible refine gate_callee (f := 24) rfl ?_); refine goesL_ (some 32) rfl rfl Tryz.func24 (by kernel_rfl) rfl #[.int .i64 a0_3] rfl (by (try simp only [List.map_toArray, List.map_cons, List.map_nil]); first | done | rfl | (simp only [List.length_drop, List.length_take]; rfl)) ?_; (with_reducible refine (spec_Decimal.calls k a0_3 t156 _ A4.out).mono ?_); rintro e w' ⟨rfl, ⟨nd, rfl⟩⟩; refine ⟨_, rfl, ?_⟩))
     go_ret
     exact ⟨by first | rfl | (simp [errW_none, errW_some] <;> rfl) | (simp [*, errW_none, errW_some] <;> rfl), by repeat (first | (with_reducible first | exact HB.out | apply below_alloc | apply pw_below_drewN | apply below_drew1 | refine below_set ?_ GE155.out) | exact HB.out)⟩
    ·rw [if_neg c6] at H
     exact absurd H (by simp)
   ·rw [if_neg c5] at H
    exact absurd H (by simp)
  ·rw [if_neg c3] at H
   have c3b0 : decide (1 < a0_3) = false := decide_eq_false c3
   clear c3
   obtain rfl := Option.some.inj H
   go_enter Tryz.func34, Tryz.ntmps34
   go_wp2_with (first | ((with_reducible refine gate_dst (N := 1) rfl ?_); refine box_event ?hg (N := 1) ?hd (cs := #[.bool true, .int .i64 a0_1, .int .i64 a0_2, .int .i64 a0_3]) (t := 38) ?hr ?_; (case hd => rfl); (case hg => rfl); (case hr => first | (go_simp; done) | (go_simp; rfl)); intro gb155 hg w9 hbox hb; have n0_ := Aside0.mk (below_step (by repeat (first | (with_reducible first | exact HB.out | apply below_alloc | apply pw_below_drewN | apply below_drew1) | exact HB.out)) hb); have n1_ := Aside0.mk (hbox); have n2_ := Aside0.mk ((by rw [hg]; exact (below_size (by repeat (first | (with_reducible first | exact HB.out | apply below_alloc | apply pw_below_drewN | apply below_drew1) | exact HB.out))) : w.heap.size ≤ gb155)); have n3_ := Aside0.mk ((by rw [hg]; exact (below_size (by repeat (first | (with_reducible first | exact HB.out | apply below_alloc | apply pw_below_drewN | apply below_drew1) | exact HB.out))) : w.heap.size ≤ gb155)); clear HB; have HB := n0_; have BK155 := n1_; have GW155 := n2_; have GE155 := n3_; clear n0_ n1_ n2_ n3_; clear hb hbox hg; have hcz10_0 : w9.cell? ⟨gb155, 0, none⟩ = some (.bool true) := (blk_cell BK155.out 0).trans rfl; have hcz10_1 : w9.cell? ⟨gb155, 1, none⟩ = some (.int .i64 a0_1) := (blk_cell BK155.out 1).trans rfl; have hcz10_2 : w9.cell? ⟨gb155, 2, none⟩ = some (.int .i64 a0_2) := (blk_cell BK155.out 2).trans rfl; have hcz10_3 : w9.cell? ⟨gb155, 3, none⟩ = some (.int .i64 a0_3) := (blk_cell BK155.out 3).trans rfl; have hfz10_0 := blk_frozen BK155.out 0; have hfz10_1 := blk_frozen BK155.out 1; have hfz10_2 := blk_frozen BK155.out 2; have hfz10_3 := blk_frozen BK155.out 3))
   go_ret
   exact ⟨by first | rfl | (simp [errW_none, errW_some] <;> rfl) | (simp [*, errW_none, errW_some] <;> rfl), by repeat (first | (with_reducible first | exact HB.out | apply below_alloc | apply pw_below_drewN | apply below_drew1 | refine below_set ?_ GE155.out) | exact HB.out)⟩
 ·replace c2 := Bool.eq_false_iff.mpr c2
  subst c2
  have H1 : ((spec_Decimal.f k a0_1).bind fun t157 => (if a0_2 > a0_1 then (spec_ItemText.j0 k t157 true false a0_1 a0_2 a0_3) else (spec_ItemText.j0 k t157 (decide (a0_3 > 1)) false a0_1 a0_2 a0_3))) = some r := by rw [if_neg (show ¬ (false = true) by decide)] at H; exact H
  clear H
  have H := H1
  clear H1
  replace H := Option.bind_eq_some_iff.mp H
  obtain ⟨t157, A110, H⟩ := H
  replace H : (if a0_2 > a0_1 then (spec_ItemText.j0 k t157 true false a0_1 a0_2 a0_3) else (spec_ItemText.j0 k t157 (decide (a0_3 > 1)) false a0_1 a0_2 a0_3)) = some r := H
  have A11 := Aside0.mk A110
  clear A110
  have HC12 := Aside0.mk H
  clear H
  go_enter Tryz.func34, Tryz.ntmps34
  go_upto_region 4 with (first | ((with_reducible refine gate_dst (N := 1) rfl ?_); refine box_event ?hg (N := 1) ?hd (cs := #[.bool false, .int .i64 a0_1, .int .i64 a0_2, .int .i64 a0_3]) (t := 38) ?hr ?_; (case hd => rfl); (case hg => rfl); (case hr => first | (go_simp; done) | (go_simp; rfl)); intro gb155 hg w13 hbox hb; have n0_ := Aside0.mk (below_step (by repeat (first | (with_reducible first | exact HB.out | apply below_alloc | apply pw_below_drewN | apply below_drew1) | exact HB.out)) hb); have n1_ := Aside0.mk (hbox); have n2_ := Aside0.mk ((by rw [hg]; exact (below_size (by repeat (first | (with_reducible first | exact HB.out | apply below_alloc | apply pw_below_drewN | apply below_drew1) | exact HB.out))) : w.heap.size ≤ gb155)); have n3_ := Aside0.mk ((by rw [hg]; exact (below_size (by repeat (first | (with_reducible first | exact HB.out | apply below_alloc | apply pw_below_drewN | apply below_drew1) | exact HB.out))) : w.heap.size ≤ gb155)); clear HB; have HB := n0_; have BK155 := n1_; have GW155 := n2_; have GE155 := n3_; clear n0_ n1_ n2_ n3_; clear hb hbox hg; have hcz14_0 : w13.cell? ⟨gb155, 0, none⟩ = some (.bool false) := (blk_cell BK155.out 0).trans rfl; have hcz14_1 : w13.cell? ⟨gb155, 1, none⟩ = some (.int .i64 a0_1) := (blk_cell BK155.out 1).trans rfl; have hcz14_2 : w13.cell? ⟨gb155, 2, none⟩ = some (.int .i64 a0_2) := (blk_cell BK155.out 2).trans rfl; have hcz14_3 : w13.cell? ⟨gb155, 3, none⟩ = some (.int .i64 a0_3) := (blk_cell BK155.out 3).trans rfl; have hfz14_0 := blk_frozen BK155.out 0; have hfz14_1 := blk_frozen BK155.out 1; have hfz14_2 := blk_frozen BK155.out 2; have hfz14_3 := blk_frozen BK155.out 3) | ((with_reducible refine gate_callee (f := 24) rfl ?_); refine goesL_ (some 9) rfl rfl Tryz.func24 (by kernel_rfl) rfl #[.int .i64 a0_1] rfl (by (try simp only [List.map_toArray, List.map_cons, List.map_nil]); first | done | rfl | (simp only [List.length_drop, List.length_take]; rfl)) ?_; (with_reducible refine (spec_Decimal.calls k a0_1 t157 _ A11.out).mono ?_); rintro e w' ⟨rfl, ⟨nd, rfl⟩⟩; refine ⟨_, rfl, ?_⟩))
  (try simp only [Act.put, List.setIfInBounds_toArray, List.set_cons_zero, List.set_cons_succ])
  go_cut [19] (fun v19 wc => ∃ (kq : Nat) (x19_11 : Bool), v19 = .bool x19_11 ∧ Aside0 (spec_ItemText.j0 kq t157 x19_11 false a0_1 a0_2 a0_3 = some r) ∧ Aside0 (kq ≤ k) ∧ Aside0 (wc.heap[gb155]? = some (.cells #[.bool false, .int .i64 a0_1, .int .i64 a0_2, .int .i64 a0_3] 38 (0, 0))) ∧ Aside0 (Below w.heap.size w wc))
  case first =>
   have H := HC12.out
   clear HC12
   by_cases c15 : a0_2 > a0_1
   ·rw [if_pos c15] at H
    have c15b0 : decide (a0_1 < a0_2) = true := decide_eq_true c15
    clear c15
    (first | rw [c15b0] | (simp only [i64_w, i32_w]; rw [c15b0]) | skip)
    have H' := Aside0.mk H
    clear H
    have hcz16_0 : w13.cell? ⟨gb155, 0, none⟩ = some (.bool false) := (blk_cell BK155.out 0).trans rfl
    have hcz16_1 : w13.cell? ⟨gb155, 1, none⟩ = some (.int .i64 a0_1) := (blk_cell BK155.out 1).trans rfl
    have hcz16_2 : w13.cell? ⟨gb155, 2, none⟩ = some (.int .i64 a0_2) := (blk_cell BK155.out 2).trans rfl
    have hcz16_3 : w13.cell? ⟨gb155, 3, none⟩ = some (.int .i64 a0_3) := (blk_cell BK155.out 3).trans rfl
    have hfz16_0 := blk_frozen BK155.out 0
    have hfz16_1 := blk_frozen BK155.out 1
    have hfz16_2 := blk_frozen BK155.out 2
    have hfz16_3 := blk_frozen BK155.out 3
    go_wp2
    go_meet
    case rel => exact ⟨_, (true), (by first | rfl | (simp; done) | (simp [*]; done)), H', ⟨by first | omega | exact Nat.le_refl _⟩, ⟨by (with_reducible repeat (first | refine blk_drewN ?_ _ | refine blk_drew ?_ | refine blk_alloc ?_ _)); exact BK155.out⟩, ⟨by repeat (first | (with_reducible first | exact HB.out | apply below_alloc | apply pw_below_drewN | apply below_drew1 | refine below_set ?_ GE155.out) | exact HB.out)⟩⟩
   ·rw [if_neg c15] at H
    have c15b0 : decide (a0_1 < a0_2) = false := decide_eq_false c15
    clear c15
    (first | rw [c15b0] | (simp only [i64_w, i32_w]; rw [c15b0]) | skip)
    have H' := Aside0.mk H
    clear H
    have hcz17_0 : w13.cell? ⟨gb155, 0, none⟩ = some (.bool false) := (blk_cell BK155.out 0).trans rfl
    have hcz17_1 : w13.cell? ⟨gb155, 1, none⟩ = some (.int .i64 a0_1) := (blk_cell BK155.out 1).trans rfl
    have hcz17_2 : w13.cell? ⟨gb155, 2, none⟩ = some (.int .i64 a0_2) := (blk_cell BK155.out 2).trans rfl
    have hcz17_3 : w13.cell? ⟨gb155, 3, none⟩ = some (.int .i64 a0_3) := (blk_cell BK155.out 3).trans rfl
    have hfz17_0 := blk_frozen BK155.out 0
    have hfz17_1 := blk_frozen BK155.out 1
    have hfz17_2 := blk_frozen BK155.out 2
    have hfz17_3 := blk_frozen BK155.out 3
    go_wp2
    go_meet
    case rel => exact ⟨_, (decide (a0_3 > 1)), (by first | rfl | (simp; done) | (simp [*]; done)), H', ⟨by first | omega | exact Nat.le_refl _⟩, ⟨by (with_reducible repeat (first | refine blk_drewN ?_ _ | refine blk_drew ?_ | refine blk_alloc ?_ _)); exact BK155.out⟩, ⟨by repeat (first | (with_reducible first | exact HB.out | apply below_alloc | apply pw_below_drewN | apply below_drew1 | refine below_set ?_ GE155.out) | exact HB.out)⟩⟩
  case rest =>
   clear HC12
   obtain ⟨kq, x19_11, rfl, HA, HJ11, BK155, HB⟩ := hcut
   cases kq with
   | zero => exact absurd HA.out (by simp [spec_ItemText.j0])
   | succ kj11 =>
    have H := HA.out
    clear HA
    simp only [spec_ItemText.j0] at H
    by_cases c18 : x19_11 = true
    ·subst c18
     have H1 : ((spec_Decimal.f kj11 a0_2).bind fun t158 => (if 1 + t158.size ≤ 9223372036854775807 then (if t157.size + ((⟨#[45]⟩ : ByteArray) ++ t158).size ≤ 9223372036854775807 then (if a0_3 > 1 then ((spec_Decimal.f kj11 a0_3).bind fun t159 => (if 1 + t159.size ≤ 9223372036854775807 then (if (t157 ++ ((⟨#[45]⟩ : ByteArray) ++ t158)).size + ((⟨#[47]⟩ : ByteArray) ++ t159).size ≤ 9223372036854775807 then (some ((t157 ++ ((⟨#[45]⟩ : ByteArray) ++ t158)) ++ ((⟨#[47]⟩ : ByteArray) ++ t159))) else (none)) else (none))) else (some (t157 ++ ((⟨#[45]⟩ : ByteArray) ++ t158)))) else (none)) else (none))) = some r := by rw [if_pos rfl] at H; exact H
     clear H
     have H := H1
     clear H1
     replace H := Option.bind_eq_some_iff.mp H
     obtain ⟨t158, A190, H⟩ := H
     replace H : (if 1 + t158.size ≤ 9223372036854775807 then (if t157.size + ((⟨#[45]⟩ : ByteArray) ++ t158).size ≤ 9223372036854775807 then (if a0_3 > 1 then ((spec_Decimal.f kj11 a0_3).bind fun t159 => (if 1 + t159.size ≤ 9223372036854775807 then (if (t157 ++ ((⟨#[45]⟩ : ByteArray) ++ t158)).size + ((⟨#[47]⟩ : ByteArray) ++ t159).size ≤ 9223372036854775807 then (some ((t157 ++ ((⟨#[45]⟩ : ByteArray) ++ t158)) ++ ((⟨#[47]⟩ : ByteArray) ++ t159))) else (none)) else (none))) else (some (t157 ++ ((⟨#[45]⟩ : ByteArray) ++ t158)))) else (none)) else (none)) = some r := H
     have A19 := Aside0.mk A190
     clear A190
     by_cases c20 : 1 + t158.size ≤ 9223372036854775807
     ·rw [if_pos c20] at H
      have c20b0 := eq_true c20
      have c20b1 : decide (1 + t158.size ≤ 9223372036854775807) = true := decide_eq_true c20
      try have c20b2 : (9223372036854775807 < 1 + t158.size) = False := eq_false (Nat.not_lt.2 c20)
      by_cases c21 : t157.size + ((⟨#[45]⟩ : ByteArray) ++ t158).size ≤ 9223372036854775807
      ·rw [if_pos c21] at H
       have c21b0 := eq_true c21
       have c21b1 : decide (t157.size + ((⟨#[45]⟩ : ByteArray) ++ t158).size ≤ 9223372036854775807) = true := decide_eq_true c21
       try have c21b2 : (9223372036854775807 < t157.size + ((⟨#[45]⟩ : ByteArray) ++ t158).size) = False := eq_false (Nat.not_lt.2 c21)
       (try have c21b3 : (9223372036854775807 < t157.size + (1 + t158.size)) = False := eq_false (Nat.not_lt.2 (by have h_ := c21; (try simp only [ByteArray.size_append] at h_); exact h_)))
       by_cases c22 : a0_3 > 1
       ·rw [if_pos c22] at H
        have c22b0 : decide (1 < a0_3) = true := decide_eq_true c22
        clear c22
        replace H := Option.bind_eq_some_iff.mp H
        obtain ⟨t159, A230, H⟩ := H
        replace H : (if 1 + t159.size ≤ 9223372036854775807 then (if (t157 ++ ((⟨#[45]⟩ : ByteArray) ++ t158)).size + ((⟨#[47]⟩ : ByteArray) ++ t159).size ≤ 9223372036854775807 then (some ((t157 ++ ((⟨#[45]⟩ : ByteArray) ++ t158)) ++ ((⟨#[47]⟩ : ByteArray) ++ t159))) else (none)) else (none)) = some r := H
        have A23 := Aside0.mk A230
        clear A230
        by_cases c24 : 1 + t159.size ≤ 9223372036854775807
        ·rw [if_pos c24] at H
         have c24b0 := eq_true c24
         have c24b1 : decide (1 + t159.size ≤ 9223372036854775807) = true := decide_eq_true c24
         try have c24b2 : (9223372036854775807 < 1 + t159.size) = False := eq_false (Nat.not_lt.2 c24)
         by_cases c25 : (t157 ++ ((⟨#[45]⟩ : ByteArray) ++ t158)).size + ((⟨#[47]⟩ : ByteArray) ++ t159).size ≤ 9223372036854775807
         ·rw [if_pos c25] at H
          have c25b0 := eq_true c25
          have c25b1 : decide ((t157 ++ ((⟨#[45]⟩ : ByteArray) ++ t158)).size + ((⟨#[47]⟩ : ByteArray) ++ t159).size ≤ 9223372036854775807) = true := decide_eq_true c25
          try have c25b2 : (9223372036854775807 < (t157 ++ ((⟨#[45]⟩ : ByteArray) ++ t158)).size + ((⟨#[47]⟩ : ByteArray) ++ t159).size) = False := eq_false (Nat.not_lt.2 c25)
          (try have c25b3 : (9223372036854775807 < (t157.size + (1 + t158.size)) + (1 + t159.size)) = False := eq_false (Nat.not_lt.2 (by have h_ := c25; (try simp only [ByteArray.size_append] at h_); exact h_)))
          obtain rfl := Option.some.inj H
          have hcz26_0 : wc.cell? ⟨gb155, 0, none⟩ = some (.bool false) := (blk_cell BK155.out 0).trans rfl
          have hcz26_1 : wc.cell? ⟨gb155, 1, none⟩ = some (.int .i64 a0_1) := (blk_cell BK155.out 1).trans rfl
          have hcz26_2 : wc.cell? ⟨gb155, 2, none⟩ = some (.int .i64 a0_2) := (blk_cell BK155.out 2).trans rfl
          have hcz26_3 : wc.cell? ⟨gb155, 3, none⟩ = some (.int .i64 a0_3) := (blk_cell BK155.out 3).trans rfl
          have hfz26_0 := blk_frozen BK155.out 0
          have hfz26_1 := blk_frozen BK155.out 1
          have hfz26_2 := blk_frozen BK155.out 2
          have hfz26_3 := blk_frozen BK155.out 3
          go_wp2_with (first | ((with_reducible refine gate_callee (f := 24) rfl ?_); refine goesL_ (some 23) rfl rfl Tryz.func24 (by kernel_rfl) rfl #[.int .i64 a0_2] rfl (by (try simp only [List.map_toArray, List.map_cons, List.map_nil]); first | done | rfl | (simp only [List.length_drop, List.length_take]; rfl)) ?_; (with_reducible refine (spec_Decimal.calls kj11 a0_2 t158 _ A19.out).mono ?_); rintro e w' ⟨rfl, ⟨nd, rfl⟩⟩; refine ⟨_, rfl, ?_⟩) | ((with_reducible refine gate_callee (f := 24) rfl ?_); refine goesL_ (some 32) rfl rfl Tryz.func24 (by kernel_rfl) rfl #[.int .i64 a0_3] rfl (by (try simp only [List.map_toArray, List.map_cons, List.map_nil]); first | done | rfl | (simp only [List.length_drop, List.length_take]; rfl)) ?_; (with_reducible refine (spec_Decimal.calls kj11 a0_3 t159 _ A23.out).mono ?_); rintro e w' ⟨rfl, ⟨nd, rfl⟩⟩; refine ⟨_, rfl, ?_⟩))
          go_ret
          exact ⟨by first | rfl | (simp [errW_none, errW_some] <;> rfl) | (simp [*, errW_none, errW_some] <;> rfl), by repeat (first | (with_reducible first | exact HB.out | apply below_alloc | apply pw_below_drewN | apply below_drew1 | refine below_set ?_ GE155.out) | exact HB.out)⟩
         ·rw [if_neg c25] at H
          exact absurd H (by simp)
        ·rw [if_neg c24] at H
         exact absurd H (by simp)
       ·rw [if_neg c22] at H
        have c22b0 : decide (1 < a0_3) = false := decide_eq_false c22
        clear c22
        obtain rfl := Option.some.inj H
        have hcz27_0 : wc.cell? ⟨gb155, 0, none⟩ = some (.bool false) := (blk_cell BK155.out 0).trans rfl
        have hcz27_1 : wc.cell? ⟨gb155, 1, none⟩ = some (.int .i64 a0_1) := (blk_cell BK155.out 1).trans rfl
        have hcz27_2 : wc.cell? ⟨gb155, 2, none⟩ = some (.int .i64 a0_2) := (blk_cell BK155.out 2).trans rfl
        have hcz27_3 : wc.cell? ⟨gb155, 3, none⟩ = some (.int .i64 a0_3) := (blk_cell BK155.out 3).trans rfl
        have hfz27_0 := blk_frozen BK155.out 0
        have hfz27_1 := blk_frozen BK155.out 1
        have hfz27_2 := blk_frozen BK155.out 2
        have hfz27_3 := blk_frozen BK155.out 3
        go_wp2_with (first | ((with_reducible refine gate_callee (f := 24) rfl ?_); refine goesL_ (some 23) rfl rfl Tryz.func24 (by kernel_rfl) rfl #[.int .i64 a0_2] rfl (by (try simp only [List.map_toArray, List.map_cons, List.map_nil]); first | done | rfl | (simp only [List.length_drop, List.length_take]; rfl)) ?_; (with_reducible refine (spec_Decimal.calls kj11 a0_2 t158 _ A19.out).mono ?_); rintro e w' ⟨rfl, ⟨nd, rfl⟩⟩; refine ⟨_, rfl, ?_⟩))
        go_ret
        exact ⟨by first | rfl | (simp [errW_none, errW_some] <;> rfl) | (simp [*, errW_none, errW_some] <;> rfl), by repeat (first | (with_reducible first | exact HB.out | apply below_alloc | apply pw_below_drewN | apply below_drew1 | refine below_set ?_ GE155.out) | exact HB.out)⟩
      ·rw [if_neg c21] at H
       exact absurd H (by simp)
     ·rw [if_neg c20] at H
      exact absurd H (by simp)
    ·replace c18 := Bool.eq_false_iff.mpr c18
     subst c18
     have H1 : (if a0_3 > 1 then ((spec_Decimal.f kj11 a0_3).bind fun t160 => (if 1 + t160.size ≤ 9223372036854775807 then (if t157.size + ((⟨#[47]⟩ : ByteArray) ++ t160).size ≤ 9223372036854775807 then (some (t157 ++ ((⟨#[47]⟩ : ByteArray) ++ t160))) else (none)) else (none))) else (some t157)) = some r := by rw [if_neg (show ¬ (false = true) by decide)] at H; exact H
     clear H
     have H := H1
     clear H1
     by_cases c28 : a0_3 > 1
     ·rw [if_pos c28] at H
      have c28b0 : decide (1 < a0_3) = true := decide_eq_true c28
      clear c28
      replace H := Option.bind_eq_some_iff.mp H
      obtain ⟨t160, A290, H⟩ := H
      replace H : (if 1 + t160.size ≤ 9223372036854775807 then (if t157.size + ((⟨#[47]⟩ : ByteArray) ++ t160).size ≤ 9223372036854775807 then (some (t157 ++ ((⟨#[47]⟩ : ByteArray) ++ t160))) else (none)) else (none)) = some r := H
      have A29 := Aside0.mk A290
      clear A290
      by_cases c30 : 1 + t160.size ≤ 9223372036854775807
      ·rw [if_pos c30] at H
       have c30b0 := eq_true c30
       have c30b1 : decide (1 + t160.size ≤ 9223372036854775807) = true := decide_eq_true c30
       try have c30b2 : (9223372036854775807 < 1 + t160.size) = False := eq_false (Nat.not_lt.2 c30)
       by_cases c31 : t157.size + ((⟨#[47]⟩ : ByteArray) ++ t160).size ≤ 9223372036854775807
       ·rw [if_pos c31] at H
        have c31b0 := eq_true c31
        have c31b1 : decide (t157.size + ((⟨#[47]⟩ : ByteArray) ++ t160).size ≤ 9223372036854775807) = true := decide_eq_true c31
        try have c31b2 : (9223372036854775807 < t157.size + ((⟨#[47]⟩ : ByteArray) ++ t160).size) = False := eq_false (Nat.not_lt.2 c31)
        (try have c31b3 : (9223372036854775807 < t157.size + (1 + t160.size)) = False := eq_false (Nat.not_lt.2 (by have h_ := c31; (try simp only [ByteArray.size_append] at h_); exact h_)))
        obtain rfl := Option.some.inj H
        have hcz32_0 : wc.cell? ⟨gb155, 0, none⟩ = some (.bool false) := (blk_cell BK155.out 0).trans rfl
        have hcz32_1 : wc.cell? ⟨gb155, 1, none⟩ = some (.int .i64 a0_1) := (blk_cell BK155.out 1).trans rfl
        have hcz32_2 : wc.cell? ⟨gb155, 2, none⟩ = some (.int .i64 a0_2) := (blk_cell BK155.out 2).trans rfl
        have hcz32_3 : wc.cell? ⟨gb155, 3, none⟩ = some (.int .i64 a0_3) := (blk_cell BK155.out 3).trans rfl
        have hfz32_0 := blk_frozen BK155.out 0
        have hfz32_1 := blk_frozen BK155.out 1
        have hfz32_2 := blk_frozen BK155.out 2
        have hfz32_3 := blk_frozen BK155.out 3
        go_wp2_with (first | ((with_reducible refine gate_callee (f := 24) rfl ?_); refine goesL_ (some 32) rfl rfl Tryz.func24 (by kernel_rfl) rfl #[.int .i64 a0_3] rfl (by (try simp only [List.map_toArray, List.map_cons, List.map_nil]); first | done | rfl | (simp only [List.length_drop, List.length_take]; rfl)) ?_; (with_reducible refine (spec_Decimal.calls kj11 a0_3 t160 _ A29.out).mono ?_); rintro e w' ⟨rfl, ⟨nd, rfl⟩⟩; refine ⟨_, rfl, ?_⟩))
        go_ret
        exact ⟨by first | rfl | (simp [errW_none, errW_some] <;> rfl) | (simp [*, errW_none, errW_some] <;> rfl), by repeat (first | (with_reducible first | exact HB.out | apply below_alloc | apply pw_below_drewN | apply below_drew1 | refine below_set ?_ GE155.out) | exact HB.out)⟩
       ·rw [if_neg c31] at H
        exact absurd H (by simp)
      ·rw [if_neg c30] at H
       exact absurd H (by simp)
     ·rw [if_neg c28] at H
      have c28b0 : decide (1 < a0_3) = false := decide_eq_false c28
      clear c28
      obtain rfl := Option.some.inj H
      have hcz33_0 : wc.cell? ⟨gb155, 0, none⟩ = some (.bool false) := (blk_cell BK155.out 0).trans rfl
      have hcz33_1 : wc.cell? ⟨gb155, 1, none⟩ = some (.int .i64 a0_1) := (blk_cell BK155.out 1).trans rfl
      have hcz33_2 : wc.cell? ⟨gb155, 2, none⟩ = some (.int .i64 a0_2) := (blk_cell BK155.out 2).trans rfl
      have hcz33_3 : wc.cell? ⟨gb155, 3, none⟩ = some (.int .i64 a0_3) := (blk_cell BK155.out 3).trans rfl
      have hfz33_0 := blk_frozen BK155.out 0
      have hfz33_1 := blk_frozen BK155.out 1
      have hfz33_2 := blk_frozen BK155.out 2
      have hfz33_3 := blk_frozen BK155.out 3
      go_wp2
      go_ret
      exact ⟨by first | rfl | (simp [errW_none, errW_some] <;> rfl) | (simp [*, errW_none, errW_some] <;> rfl), by repeat (first | (with_reducible first | exact HB.out | apply below_alloc | apply pw_below_drewN | apply below_drew1 | refine below_set ?_ GE155.out) | exact HB.out)⟩
def spec_FieldText.l0 : Nat → ByteArray → List (S38) → Int → Int → Option (ByteArray)
 | 0, _, _, _, _ => none
 | k + 1, x3, x6, x7, x8 => if x8 < x7 then (if 0 ≤ x8 then (if x8 < (x6.length : Int) then (if x8 > 0 then (if x3.size + 1 ≤ 9223372036854775807 then ((spec_ItemText.f k ((rd_T38 x6 x8).f0) ((rd_T38 x6 x8).f1) ((rd_T38 x6 x8).f2) ((rd_T38 x6 x8).f3)).bind fun t163 => (if (x3 ++ (⟨#[44]⟩ : ByteArray)).size + t163.size ≤ 9223372036854775807 then (spec_FieldText.l0 k ((x3 ++ (⟨#[44]⟩ : ByteArray)) ++ t163) x6 x7 (wrap64 (x8 + 1))) else (none))) else (none)) else ((spec_ItemText.f k ((rd_T38 x6 x8).f0) ((rd_T38 x6 x8).f1) ((rd_T38 x6 x8).f2) ((rd_T38 x6 x8).f3)).bind fun t164 => (if x3.size + t164.size ≤ 9223372036854775807 then (spec_FieldText.l0 k (x3 ++ t164) x6 x7 (wrap64 (x8 + 1))) else (none)))) else (none)) else (none)) else (some x3)
def spec_FieldText.f (k : Nat) (l0 : List (S38)) : Option (ByteArray) := spec_FieldText.l0 k (⟨#[]⟩ : ByteArray) l0 (l0.length : Int) 0
set_option maxHeartbeats 8000000 in
set_option maxRecDepth 100000 in
theorem spec_FieldText.calls (k : Nat) (A0 : Option Addr) (c0 : Nat) (l0 : List (S38)) (r : ByteArray) (w : World) (hr0 : Kd.C k38 w A0 l0.length l0) (hc0 : l0.length ≤ c0) (h : spec_FieldText.f k l0 = some r) :
  Calls Tryz.prog 16 #[.slice A0 l0.length c0] w fun e w' => e = .returned (.string r) ∧ Below w.heap.size w w' := by
 have hu38 := Tryz.underlying38
 have HR0 := Aside0.mk hr0
 have HC0 := Aside0.mk hc0
 clear hr0 hc0
 have HB := Aside0.mk (Below.refl w.heap.size w)
 have H : (spec_FieldText.l0 k (⟨#[]⟩ : ByteArray) l0 (l0.length : Int) 0) = some r := h
 clear h
 have H' := Aside0.mk H
 clear H
 go_enter Tryz.func16, Tryz.ntmps16
 go_wp2
 go_loopg [3, 8] k (fun kq v3 v8 w' => ∃ (x3_1 : ByteArray) (x8_1 : Int), v3 = .string x3_1 ∧ v8 = .int .i64 x8_1 ∧ Aside0 (spec_FieldText.l0 kq x3_1 l0 (l0.length : Int) x8_1 = some r) ∧ Aside0 (kq ≤ k) ∧ Aside0 (Below w.heap.size w w'))
 case atStart => exact ⟨((⟨#[]⟩ : ByteArray)), (0), (by first | rfl | (simp; done) | (simp [*]; done)), (by first | rfl | (simp; done) | (simp [*]; done)), H', ⟨Nat.le_refl _⟩, ⟨by repeat (first | (with_reducible first | exact HB.out | apply below_alloc | apply pw_below_drewN | apply below_drew1) | exact HB.out)⟩⟩
 case round =>
  clear H'
  obtain ⟨x3_1, x8_1, rfl, rfl, HA, HK1, HB⟩ := hrel
  cases gk with
  | zero => exact absurd HA.out (by simp [spec_FieldText.l0])
  | succ k1 =>
   have H := HA.out
   clear HA
   simp only [spec_FieldText.l0] at H
   by_cases c2 : x8_1 < (l0.length : Int)
   ·rw [if_pos c2] at H
    have c2b0 : decide (x8_1 < (l0.length : Int)) = true := decide_eq_true c2
    clear c2
    by_cases c3 : 0 ≤ x8_1
    ·rw [if_pos c3] at H
     have c3b0 : decide (0 ≤ x8_1) = true := decide_eq_true c3
     clear c3
     by_cases c4 : x8_1 < (l0.length : Int)
     ·rw [if_pos c4] at H
      have c4b0 : decide (x8_1 < (l0.length : Int)) = true := decide_eq_true c4
      clear c4
      by_cases c5 : x8_1 > 0
      ·rw [if_pos c5] at H
       have c5b0 : decide (0 < x8_1) = true := decide_eq_true c5
       clear c5
       by_cases c6 : x3_1.size + 1 ≤ 9223372036854775807
       ·rw [if_pos c6] at H
        have c6b0 := eq_true c6
        have c6b1 : decide (x3_1.size + 1 ≤ 9223372036854775807) = true := decide_eq_true c6
        try have c6b2 : (9223372036854775807 < x3_1.size + 1) = False := eq_false (Nat.not_lt.2 c6)
        replace H := Option.bind_eq_some_iff.mp H
        obtain ⟨t163, A70, H⟩ := H
        replace H : (if (x3_1 ++ (⟨#[44]⟩ : ByteArray)).size + t163.size ≤ 9223372036854775807 then (spec_FieldText.l0 k1 ((x3_1 ++ (⟨#[44]⟩ : ByteArray)) ++ t163) l0 (l0.length : Int) (wrap64 (x8_1 + 1))) else (none)) = some r := H
        have A7 := Aside0.mk A70
        clear A70
        by_cases c8 : (x3_1 ++ (⟨#[44]⟩ : ByteArray)).size + t163.size ≤ 9223372036854775807
        ·rw [if_pos c8] at H
         have c8b0 := eq_true c8
         have c8b1 : decide ((x3_1 ++ (⟨#[44]⟩ : ByteArray)).size + t163.size ≤ 9223372036854775807) = true := decide_eq_true c8
         try have c8b2 : (9223372036854775807 < (x3_1 ++ (⟨#[44]⟩ : ByteArray)).size + t163.size) = False := eq_false (Nat.not_lt.2 c8)
         (try have c8b3 : (9223372036854775807 < (x3_1.size + 1) + t163.size) = False := eq_false (Nat.not_lt.2 (by have h_ := c8; (try simp only [ByteArray.size_append] at h_); exact h_)))
         have H' := Aside0.mk H
         clear H
         have p161 : 0 ≤ (x8_1 : Int) := of_decide_eq_true (by first | (with_reducible assumption) | assumption)
         have q161 : x8_1 < (l0.length : Int) := of_decide_eq_true (by first | (with_reducible assumption) | assumption)
         obtain ⟨ad161, e161, hx161_0, hx161_1, hx161_2, hx161_3⟩ := at_T38 HR0.out x8_1 p161 q161
         cases e161
         replace hx161_0 := (HB.out.cell (World.block_lt_of_cell? w _ hx161_0)).trans hx161_0
         replace hx161_1 := (HB.out.cell (World.block_lt_of_cell? w _ hx161_1)).trans hx161_1
         replace hx161_2 := (HB.out.cell (World.block_lt_of_cell? w _ hx161_2)).trans hx161_2
         replace hx161_3 := (HB.out.cell (World.block_lt_of_cell? w _ hx161_3)).trans hx161_3
         replace p161 := eq_true p161
         replace q161 := eq_true q161
         go_wp2_with (first | ((with_reducible refine gate_dst (N := 5) rfl ?_); refine box_event ?hg (N := 5) ?hd (cs := #[.bool false, .int .i64 0, .int .i64 0, .int .i64 0]) (t := 38) ?hr ?_; (case hd => rfl); (case hg => rfl); (case hr => first | (go_simp; done) | (go_simp; rfl)); intro gb162 hg w9 hbox hb; have n0_ := Aside0.mk (below_step (by repeat (first | (with_reducible first | exact HB.out | apply below_alloc | apply pw_below_drewN | apply below_drew1) | exact HB.out)) hb); have n1_ := Aside0.mk (hbox); have n2_ := Aside0.mk ((by rw [hg]; exact (below_size (by repeat (first | (with_reducible first | exact HB.out | apply below_alloc | apply pw_below_drewN | apply below_drew1) | exact HB.out))) : w.heap.size ≤ gb162)); have n3_ := Aside0.mk ((by rw [hg]; exact (below_size (by repeat (first | (with_reducible first | exact HB.out | apply below_alloc | apply pw_below_drewN | apply below_drew1) | exact HB.out))) : w.heap.size ≤ gb162)); clear HB; have HB := n0_; have BK162 := n1_; have GW162 := n2_; have GE162 := n3_; clear n0_ n1_ n2_ n3_; clear hb hbox hg; have hcz10_0 : w9.cell? ⟨gb162, 0, none⟩ = some (.bool false) := (blk_cell BK162.out 0).trans rfl; have hcz10_1 : w9.cell? ⟨gb162, 1, none⟩ = some (.int .i64 0) := (blk_cell BK162.out 1).trans rfl; have hcz10_2 : w9.cell? ⟨gb162, 2, none⟩ = some (.int .i64 0) := (blk_cell BK162.out 2).trans rfl; have hcz10_3 : w9.cell? ⟨gb162, 3, none⟩ = some (.int .i64 0) := (blk_cell BK162.out 3).trans rfl; have hfz10_0 := blk_frozen BK162.out 0; have hfz10_1 := blk_frozen BK162.out 1; have hfz10_2 := blk_frozen BK162.out 2; have hfz10_3 := blk_frozen BK162.out 3) | ((with_reducible refine gate_callee (f := 34) rfl ?_); refine goesL_ (some 19) rfl rfl Tryz.func34 (by kernel_rfl) rfl #[.agg #[.bool ((rd_T38 l0 x8_1).f0), .int .i64 ((rd_T38 l0 x8_1).f1), .int .i64 ((rd_T38 l0 x8_1).f2), .int .i64 ((rd_T38 l0 x8_1).f3)]] rfl (by (try simp only [List.map_toArray, List.map_cons, List.map_nil]); first | done | rfl | (simp only [List.length_drop, List.length_take]; rfl)) ?_; (with_reducible refine (spec_ItemText.calls k1 ((rd_T38 l0 x8_1).f0) ((rd_T38 l0 x8_1).f1) ((rd_T38 l0 x8_1).f2) ((rd_T38 l0 x8_1).f3) t163 _ A7.out).mono ?_); rintro e w11 ⟨rfl, hb⟩; refine ⟨_, rfl, ?_⟩; have n0_ := Aside0.mk (blk_below (g := gb162) (o := .cells #[.bool ((rd_T38 l0 x8_1).f0), .int .i64 ((rd_T38 l0 x8_1).f1), .int .i64 ((rd_T38 l0 x8_1).f2), .int .i64 ((rd_T38 l0 x8_1).f3)] 38 (0, 0)) (by (with_reducible repeat (first | refine blk_drewN ?_ _ | refine blk_drew ?_ | refine blk_alloc ?_ _)); refine blk_put (cs := #[.bool ((rd_T38 l0 x8_1).f0), .int .i64 ((rd_T38 l0 x8_1).f1), .int .i64 ((rd_T38 l0 x8_1).f2), .int .i64 0]) ?_ 3 _ rfl; (with_reducible repeat (first | refine blk_drewN ?_ _ | refine blk_drew ?_ | refine blk_alloc ?_ _)); refine blk_put (cs := #[.bool ((rd_T38 l0 x8_1).f0), .int .i64 ((rd_T38 l0 x8_1).f1), .int .i64 0, .int .i64 0]) ?_ 2 _ rfl; (with_reducible repeat (first | refine blk_drewN ?_ _ | refine blk_drew ?_ | refine blk_alloc ?_ _)); refine blk_put (cs := #[.bool ((rd_T38 l0 x8_1).f0), .int .i64 0, .int .i64 0, .int .i64 0]) ?_ 1 _ rfl; (with_reducible repeat (first | refine blk_drewN ?_ _ | refine blk_drew ?_ | refine blk_alloc ?_ _)); refine blk_put (cs := #[.bool false, .int .i64 0, .int .i64 0, .int .i64 0]) ?_ 0 _ rfl; (with_reducible repeat (first | refine blk_drewN ?_ _ | refine blk_drew ?_ | refine blk_alloc ?_ _)); exact BK162.out) hb); have n1_ := Aside0.mk (below_step (by repeat (first | (with_reducible first | exact HB.out | apply below_alloc | apply pw_below_drewN | apply below_drew1 | refine below_set ?_ GE162.out) | exact HB.out)) hb); clear BK162; clear HB; have BK162 := n0_; have HB := n1_; clear n0_ n1_; (try clear hb); (try clear hb2); (try clear hk); (try clear hi)))
         go_roundg k1
         case measure => have := HK1.out; omega
         case rel => exact ⟨((x3_1 ++ (⟨#[44]⟩ : ByteArray)) ++ t163), (wrap64 (x8_1 + 1)), (by first | rfl | (simp; done) | (simp [*]; done)), (by first | rfl | (simp; done) | (simp [*]; done)), H', ⟨by have := HK1.out; omega⟩, ⟨by repeat (first | (with_reducible first | exact HB.out | apply below_alloc | apply pw_below_drewN | apply below_drew1 | refine below_set ?_ GE162.out) | exact HB.out)⟩⟩
        ·rw [if_neg c8] at H
         exact absurd H (by simp)
       ·rw [if_neg c6] at H
        exact absurd H (by simp)
      ·rw [if_neg c5] at H
       have c5b0 : decide (0 < x8_1) = false := decide_eq_false c5
       clear c5
       replace H := Option.bind_eq_some_iff.mp H
       obtain ⟨t164, A120, H⟩ := H
       replace H : (if x3_1.size + t164.size ≤ 9223372036854775807 then (spec_FieldText.l0 k1 (x3_1 ++ t164) l0 (l0.length : Int) (wrap64 (x8_1 + 1))) else (none)) = some r := H
       have A12 := Aside0.mk A120
       clear A120
       by_cases c13 : x3_1.size + t164.size ≤ 9223372036854775807
       ·rw [if_pos c13] at H
        have c13b0 := eq_true c13
        have c13b1 : decide (x3_1.size + t164.size ≤ 9223372036854775807) = true := decide_eq_true c13
        try have c13b2 : (9223372036854775807 < x3_1.size + t164.size) = False := eq_false (Nat.not_lt.2 c13)
        have H' := Aside0.mk H
        clear H
        have p161 : 0 ≤ (x8_1 : Int) := of_decide_eq_true (by first | (with_reducible assumption) | assumption)
        have q161 : x8_1 < (l0.length : Int) := of_decide_eq_true (by first | (with_reducible assumption) | assumption)
        obtain ⟨ad161, e161, hx161_0, hx161_1, hx161_2, hx161_3⟩ := at_T38 HR0.out x8_1 p161 q161
        cases e161
        replace hx161_0 := (HB.out.cell (World.block_lt_of_cell? w _ hx161_0)).trans hx161_0
        replace hx161_1 := (HB.out.cell (World.block_lt_of_cell? w _ hx161_1)).trans hx161_1
        replace hx161_2 := (HB.out.cell (World.block_lt_of_cell? w _ hx161_2)).trans hx161_2
        replace hx161_3 := (HB.out.cell (World.block_lt_of_cell? w _ hx161_3)).trans hx161_3
        replace p161 := eq_true p161
        replace q161 := eq_true q161
        go_wp2_with (first | ((with_reducible refine gate_dst (N := 5) rfl ?_); refine box_event ?hg (N := 5) ?hd (cs := #[.bool false, .int .i64 0, .int .i64 0, .int .i64 0]) (t := 38) ?hr ?_; (case hd => rfl); (case hg => rfl); (case hr => first | (go_simp; done) | (go_simp; rfl)); intro gb162 hg w14 hbox hb; have n0_ := Aside0.mk (below_step (by repeat (first | (with_reducible first | exact HB.out | apply below_alloc | apply pw_below_drewN | apply below_drew1) | exact HB.out)) hb); have n1_ := Aside0.mk (hbox); have n2_ := Aside0.mk ((by rw [hg]; exact (below_size (by repeat (first | (with_reducible first | exact HB.out | apply below_alloc | apply pw_below_drewN | apply below_drew1) | exact HB.out))) : w.heap.size ≤ gb162)); have n3_ := Aside0.mk ((by rw [hg]; exact (below_size (by repeat (first | (with_reducible first | exact HB.out | apply below_alloc | apply pw_below_drewN | apply below_drew1) | exact HB.out))) : w.heap.size ≤ gb162)); clear HB; have HB := n0_; have BK162 := n1_; have GW162 := n2_; have GE162 := n3_; clear n0_ n1_ n2_ n3_; clear hb hbox hg; have hcz15_0 : w14.cell? ⟨gb162, 0, none⟩ = some (.bool false) := (blk_cell BK162.out 0).trans rfl; have hcz15_1 : w14.cell? ⟨gb162, 1, none⟩ = some (.int .i64 0) := (blk_cell BK162.out 1).trans rfl; have hcz15_2 : w14.cell? ⟨gb162, 2, none⟩ = some (.int .i64 0) := (blk_cell BK162.out 2).trans rfl; have hcz15_3 : w14.cell? ⟨gb162, 3, none⟩ = some (.int .i64 0) := (blk_cell BK162.out 3).trans rfl; have hfz15_0 := blk_frozen BK162.out 0; have hfz15_1 := blk_frozen BK162.out 1; have hfz15_2 := blk_frozen BK162.out 2; have hfz15_3 := blk_frozen BK162.out 3) | ((with_reducible refine gate_callee (f := 34) rfl ?_); refine goesL_ (some 19) rfl rfl Tryz.func34 (by kernel_rfl) rfl #[.agg #[.bool ((rd_T38 l0 x8_1).f0), .int .i64 ((rd_T38 l0 x8_1).f1), .int .i64 ((rd_T38 l0 x8_1).f2), .int .i64 ((rd_T38 l0 x8_1).f3)]] rfl (by (try simp only [List.map_toArray, List.map_cons, List.map_nil]); first | done | rfl | (simp only [List.length_drop, List.length_take]; rfl)) ?_; (with_reducible refine (spec_ItemText.calls k1 ((rd_T38 l0 x8_1).f0) ((rd_T38 l0 x8_1).f1) ((rd_T38 l0 x8_1).f2) ((rd_T38 l0 x8_1).f3) t164 _ A12.out).mono ?_); rintro e w16 ⟨rfl, hb⟩; refine ⟨_, rfl, ?_⟩; have n0_ := Aside0.mk (blk_below (g := gb162) (o := .cells #[.bool ((rd_T38 l0 x8_1).f0), .int .i64 ((rd_T38 l0 x8_1).f1), .int .i64 ((rd_T38 l0 x8_1).f2), .int .i64 ((rd_T38 l0 x8_1).f3)] 38 (0, 0)) (by (with_reducible repeat (first | refine blk_drewN ?_ _ | refine blk_drew ?_ | refine blk_alloc ?_ _)); refine blk_put (cs := #[.bool ((rd_T38 l0 x8_1).f0), .int .i64 ((rd_T38 l0 x8_1).f1), .int .i64 ((rd_T38 l0 x8_1).f2), .int .i64 0]) ?_ 3 _ rfl; (with_reducible repeat (first | refine blk_drewN ?_ _ | refine blk_drew ?_ | refine blk_alloc ?_ _)); refine blk_put (cs := #[.bool ((rd_T38 l0 x8_1).f0), .int .i64 ((rd_T38 l0 x8_1).f1), .int .i64 0, .int .i64 0]) ?_ 2 _ rfl; (with_reducible repeat (first | refine blk_drewN ?_ _ | refine blk_drew ?_ | refine blk_alloc ?_ _)); refine blk_put (cs := #[.bool ((rd_T38 l0 x8_1).f0), .int .i64 0, .int .i64 0, .int .i64 0]) ?_ 1 _ rfl; (with_reducible repeat (first | refine blk_drewN ?_ _ | refine blk_drew ?_ | refine blk_alloc ?_ _)); refine blk_put (cs := #[.bool false, .int .i64 0, .int .i64 0, .int .i64 0]) ?_ 0 _ rfl; (with_reducible repeat (first | refine blk_drewN ?_ _ | refine blk_drew ?_ | refine blk_alloc ?_ _)); exact BK162.out) hb); have n1_ := Aside0.mk (below_step (by repeat (first | (with_reducible first | exact HB.out | apply below_alloc | apply pw_below_drewN | apply below_drew1 | refine below_set ?_ GE162.out) | exact HB.out)) hb); clear BK162; clear HB; have BK162 := n0_; have HB := n1_; clear n0_ n1_; (try clear hb); (try clear hb2); (try clear hk); (try clear hi)))
        go_roundg k1
        case measure => have := HK1.out; omega
        case rel => exact ⟨(x3_1 ++ t164), (wrap64 (x8_1 + 1)), (by first | rfl | (simp; done) | (simp [*]; done)), (by first | rfl | (simp; done) | (simp [*]; done)), H', ⟨by have := HK1.out; omega⟩, ⟨by repeat (first | (with_reducible first | exact HB.out | apply below_alloc | apply pw_below_drewN | apply below_drew1 | refine below_set ?_ GE162.out) | exact HB.out)⟩⟩
       ·rw [if_neg c13] at H
        exact absurd H (by simp)
     ·rw [if_neg c4] at H
      exact absurd H (by simp)
    ·rw [if_neg c3] at H
     exact absurd H (by simp)
   ·rw [if_neg c2] at H
    have c2b0 : decide (x8_1 < (l0.length : Int)) = false := decide_eq_false c2
    clear c2
    obtain rfl := Option.some.inj H
    go_wp2
    go_ret
    exact ⟨by first | rfl | (simp [errW_none, errW_some] <;> rfl) | (simp [*, errW_none, errW_some] <;> rfl), by repeat (first | (with_reducible first | exact HB.out | apply below_alloc | apply pw_below_drewN | apply below_drew1) | exact HB.out)⟩
mutual
def spec_Text.l0 : Nat → ByteArray → List (List (S38)) → Int → Int → List (List (S38)) → Bool → Option (ByteArray)
 | 0, _, _, _, _, _, _ => none
 | k + 1, x3, x7, x8, x9, x249000, x249001 => if x9 < x8 then (if 0 ≤ x9 then (if x9 < (x7.length : Int) then (if x9 = 0 then (spec_Text.j1 k x3 (rd_L5 x7 x9) x7 x8 x9 (!x249001) x249000 x249001) else (spec_Text.j1 k x3 (rd_L5 x7 x9) x7 x8 x9 false x249000 x249001)) else (none)) else (none)) else (some x3)
def spec_Text.j1 : Nat → ByteArray → List (S38) → List (List (S38)) → Int → Int → Bool → List (List (S38)) → Bool → Option (ByteArray)
 | 0, _, _, _, _, _, _, _, _ => none
 | k + 1, x3, x5, x7, x8, x9, x20, x249000, x249001 => if x20 = true then (spec_Text.l0 k x3 x7 x8 (wrap64 (x9 + 1)) x249000 x249001) else (if x3.toList = ([] : List UInt8) then ((spec_FieldText.f k x5).bind fun t250 => (if x3.size + t250.size ≤ 9223372036854775807 then (spec_Text.l0 k (x3 ++ t250) x7 x8 (wrap64 (x9 + 1)) x249000 x249001) else (none))) else (if x3.size + 1 ≤ 9223372036854775807 then ((spec_FieldText.f k x5).bind fun t251 => (if (x3 ++ (⟨#[32]⟩ : ByteArray)).size + t251.size ≤ 9223372036854775807 then (spec_Text.l0 k ((x3 ++ (⟨#[32]⟩ : ByteArray)) ++ t251) x7 x8 (wrap64 (x9 + 1)) x249000 x249001) else (none))) else (none)))
end
def spec_Text.f (k : Nat) (l0_0 : List (List (S38))) (a0_1 : Bool) : Option (ByteArray) := spec_Text.l0 k (⟨#[]⟩ : ByteArray) l0_0 (l0_0.length : Int) 0 l0_0 a0_1
set_option maxHeartbeats 8000000 in
set_option maxRecDepth 100000 in
theorem spec_Text.calls (k : Nat) (A0_0 : Option Addr) (c0_0 : Nat) (l0_0 : List (List (S38))) (a0_1 : Bool) (r : ByteArray) (w : World) (hr0_0 : Kd.C (Kd.slice 38 k38) w A0_0 l0_0.length l0_0) (hc0_0 : l0_0.length ≤ c0_0) (h : spec_Text.f k l0_0 a0_1 = some r) :
  Calls Tryz.prog 15 #[.agg #[.slice A0_0 l0_0.length c0_0, .bool a0_1]] w fun e w' => e = .returned (.string r) ∧ Below w.heap.size w w' := by
 have hu30 := Tryz.underlying30
 have HR0_0 := Aside0.mk hr0_0
 have HC0_0 := Aside0.mk hc0_0
 clear hr0_0 hc0_0
 have HB := Aside0.mk (Below.refl w.heap.size w)
 have H : (spec_Text.l0 k (⟨#[]⟩ : ByteArray) l0_0 (l0_0.length : Int) 0 l0_0 a0_1) = some r := h
 clear h
 have H' := Aside0.mk H
 clear H
 go_enter Tryz.func15, Tryz.ntmps15
 go_wp2_with (first | ((with_reducible refine gate_dst (N := 1) rfl ?_); refine box_event ?hg (N := 1) ?hd (cs := #[.slice A0_0 l0_0.length c0_0, .bool a0_1]) (t := 30) ?hr ?_; (case hd => rfl); (case hg => rfl); (case hr => first | (go_simp; done) | (go_simp; rfl)); intro gb248 hg w2 hbox hb; have n0_ := Aside0.mk (below_step (by repeat (first | (with_reducible first | exact HB.out | apply below_alloc | apply pw_below_drewN | apply below_drew1) | exact HB.out)) hb); have n1_ := Aside0.mk (hbox); have n2_ := Aside0.mk ((by rw [hg]; exact (below_size (by repeat (first | (with_reducible first | exact HB.out | apply below_alloc | apply pw_below_drewN | apply below_drew1) | exact HB.out))) : w.heap.size ≤ gb248)); have n3_ := Aside0.mk ((by rw [hg]; exact (below_size (by repeat (first | (with_reducible first | exact HB.out | apply below_alloc | apply pw_below_drewN | apply below_drew1) | exact HB.out))) : w.heap.size ≤ gb248)); clear HB; have HB := n0_; have BK248 := n1_; have GW248 := n2_; have GE248 := n3_; clear n0_ n1_ n2_ n3_; clear hb hbox hg; have hcz3_0 : w2.cell? ⟨gb248, 0, none⟩ = some (.slice A0_0 l0_0.length c0_0) := (blk_cell BK248.out 0).trans rfl; have hcz3_1 : w2.cell? ⟨gb248, 1, none⟩ = some (.bool a0_1) := (blk_cell BK248.out 1).trans rfl; have hfz3_0 := blk_frozen BK248.out 0; have hfz3_1 := blk_frozen BK248.out 1))
 go_loopg [3, 9] k (fun kq v3 v9 w' => ∃ (x3_1 : ByteArray) (x9_1 : Int), v3 = .string x3_1 ∧ v9 = .int .i64 x9_1 ∧ Aside0 (spec_Text.l0 kq x3_1 l0_0 (l0_0.length : Int) x9_1 l0_0 a0_1 = some r) ∧ Aside0 (kq ≤ k) ∧ Aside0 (w'.heap[gb248]? = some (.cells #[(.slice A0_0 l0_0.length c0_0), .bool a0_1] 30 (0, 0))) ∧ Aside0 (Below w.heap.size w w'))
 case atStart => exact ⟨((⟨#[]⟩ : ByteArray)), (0), (by first | rfl | (simp; done) | (simp [*]; done)), (by first | rfl | (simp; done) | (simp [*]; done)), H', ⟨Nat.le_refl _⟩, ⟨by (with_reducible repeat (first | refine blk_drewN ?_ _ | refine blk_drew ?_ | refine blk_alloc ?_ _)); exact BK248.out⟩, ⟨by repeat (first | (with_reducible first | exact HB.out | apply below_alloc | apply pw_below_drewN | apply below_drew1 | refine below_set ?_ GE248.out) | exact HB.out)⟩⟩
 case round =>
  clear H'
  obtain ⟨x3_1, x9_1, rfl, rfl, HA, HK1, BK248, HB⟩ := hrel
  cases gk with
  | zero => exact absurd HA.out (by simp [spec_Text.l0])
  | succ k1 =>
   have H := HA.out
   clear HA
   simp only [spec_Text.l0] at H
   by_cases c4 : x9_1 < (l0_0.length : Int)
   ·rw [if_pos c4] at H
    have c4b0 : decide (x9_1 < (l0_0.length : Int)) = true := decide_eq_true c4
    clear c4
    by_cases c5 : 0 ≤ x9_1
    ·rw [if_pos c5] at H
     have c5b0 : decide (0 ≤ x9_1) = true := decide_eq_true c5
     clear c5
     by_cases c6 : x9_1 < (l0_0.length : Int)
     ·rw [if_pos c6] at H
      have c6b0 : decide (x9_1 < (l0_0.length : Int)) = true := decide_eq_true c6
      clear c6
      have HC7 := Aside0.mk H
      clear H
      have p249 : 0 ≤ (x9_1 : Int) := of_decide_eq_true (by first | (with_reducible assumption) | assumption)
      have q249 : x9_1 < (l0_0.length : Int) := of_decide_eq_true (by first | (with_reducible assumption) | assumption)
      obtain ⟨ad249, A249_0, c249_0, e249, hx249_0, hl249_0, hi249_0⟩ := at_L5 HR0_0.out x9_1 p249 q249
      cases e249
      replace hx249_0 := (HB.out.cell (World.block_lt_of_cell? w _ hx249_0)).trans hx249_0
      have HR249_0 := Aside0.mk hi249_0
      have HC249_0 := Aside0.mk hl249_0
      clear hi249_0 hl249_0
      replace p249 := eq_true p249
      replace q249 := eq_true q249
      go_upto_region 5 with (fail)
      go_cut [20] (fun v20 wc => ∃ (kq : Nat) (x20_6 : Bool), v20 = .bool x20_6 ∧ Aside0 (spec_Text.j1 kq x3_1 (rd_L5 l0_0 x9_1) l0_0 (l0_0.length : Int) x9_1 x20_6 l0_0 a0_1 = some r) ∧ Aside0 (kq ≤ k1) ∧ Aside0 (wc.heap[gb248]? = some (.cells #[(.slice (some ad249) l0_0.length c0_0), .bool a0_1] 30 (0, 0))) ∧ Aside0 (Below w.heap.size w wc))
      case first =>
       have H := HC7.out
       clear HC7
       by_cases c8 : x9_1 = 0
       ·rw [if_pos c8] at H
        have c8b0 : (x9_1 == 0) = true := beq_iff_eq.mpr c8
        have c8b1 : (x9_1 != 0) = false := bne_eq_false_iff_eq.mpr c8
        clear c8
        (first | rw [c8b0] | (simp only [i64_w, i32_w]; rw [c8b0]) | skip)
        have H' := Aside0.mk H
        clear H
        have hcz9_0 : wr.cell? ⟨gb248, 0, none⟩ = some (.slice (some ad249) l0_0.length c0_0) := (blk_cell BK248.out 0).trans rfl
        have hcz9_1 : wr.cell? ⟨gb248, 1, none⟩ = some (.bool a0_1) := (blk_cell BK248.out 1).trans rfl
        have hfz9_0 := blk_frozen BK248.out 0
        have hfz9_1 := blk_frozen BK248.out 1
        go_wp2
        go_meet
        case rel => exact ⟨_, (!a0_1), (by first | rfl | (simp; done) | (simp [*]; done)), H', ⟨by have := HK1.out; first | omega | exact Nat.le_refl _⟩, ⟨by (with_reducible repeat (first | refine blk_drewN ?_ _ | refine blk_drew ?_ | refine blk_alloc ?_ _)); exact BK248.out⟩, ⟨by repeat (first | (with_reducible first | exact HB.out | apply below_alloc | apply pw_below_drewN | apply below_drew1 | refine below_set ?_ GE248.out) | exact HB.out)⟩⟩
       ·rw [if_neg c8] at H
        have c8b0 : (x9_1 == 0) = false := beq_eq_false_iff_ne.mpr c8
        have c8b1 : (x9_1 != 0) = true := bne_iff_ne.mpr c8
        (first | rw [c8b0] | (simp only [i64_w, i32_w]; rw [c8b0]) | skip)
        have H' := Aside0.mk H
        clear H
        go_wp2
        go_meet
        case rel => exact ⟨_, (false), (by first | rfl | (simp; done) | (simp [*]; done)), H', ⟨by have := HK1.out; first | omega | exact Nat.le_refl _⟩, ⟨by (with_reducible repeat (first | refine blk_drewN ?_ _ | refine blk_drew ?_ | refine blk_alloc ?_ _)); exact BK248.out⟩, ⟨by repeat (first | (with_reducible first | exact HB.out | apply below_alloc | apply pw_below_drewN | apply below_drew1 | refine below_set ?_ GE248.out) | exact HB.out)⟩⟩
      case rest =>
       clear HC7
       obtain ⟨kq, x20_6, rfl, HA, HJ6, BK248, HB⟩ := hcut
       cases kq with
       | zero => exact absurd HA.out (by simp [spec_Text.j1])
       | succ kj6 =>
        have H := HA.out
        clear HA
        simp only [spec_Text.j1] at H
        by_cases c10 : x20_6 = true
        ·subst c10
         have H1 : (spec_Text.l0 kj6 x3_1 l0_0 (l0_0.length : Int) (wrap64 (x9_1 + 1)) l0_0 a0_1) = some r := by rw [if_pos rfl] at H; exact H
         clear H
         have H := H1
         clear H1
         have H' := Aside0.mk H
         clear H
         go_wp2
         go_roundg kj6
         case measure => have := HK1.out; have := HJ6.out; omega
         case rel => exact ⟨(x3_1), (wrap64 (x9_1 + 1)), (by first | rfl | (simp; done) | (simp [*]; done)), (by first | rfl | (simp; done) | (simp [*]; done)), H', ⟨by have := HK1.out; have := HJ6.out; omega⟩, ⟨by (with_reducible repeat (first | refine blk_drewN ?_ _ | refine blk_drew ?_ | refine blk_alloc ?_ _)); exact BK248.out⟩, ⟨by repeat (first | (with_reducible first | exact HB.out | apply below_alloc | apply pw_below_drewN | apply below_drew1 | refine below_set ?_ GE248.out) | exact HB.out)⟩⟩
        ·replace c10 := Bool.eq_false_iff.mpr c10
         subst c10
         have H1 : (if x3_1.toList = ([] : List UInt8) then ((spec_FieldText.f kj6 (rd_L5 l0_0 x9_1)).bind fun t250 => (if x3_1.size + t250.size ≤ 9223372036854775807 then (spec_Text.l0 kj6 (x3_1 ++ t250) l0_0 (l0_0.length : Int) (wrap64 (x9_1 + 1)) l0_0 a0_1) else (none))) else (if x3_1.size + 1 ≤ 9223372036854775807 then ((spec_FieldText.f kj6 (rd_L5 l0_0 x9_1)).bind fun t251 => (if (x3_1 ++ (⟨#[32]⟩ : ByteArray)).size + t251.size ≤ 9223372036854775807 then (spec_Text.l0 kj6 ((x3_1 ++ (⟨#[32]⟩ : ByteArray)) ++ t251) l0_0 (l0_0.length : Int) (wrap64 (x9_1 + 1)) l0_0 a0_1) else (none))) else (none))) = some r := by rw [if_neg (show ¬ (false = true) by decide)] at H; exact H
         clear H
         have H := H1
         clear H1
         by_cases c11 : x3_1.toList = ([] : List UInt8)
         ·rw [if_pos c11] at H
          have c11b0 : (x3_1.toList == ([] : List UInt8)) = true := beq_iff_eq.mpr c11
          have c11b1 : (x3_1.toList != ([] : List UInt8)) = false := bne_eq_false_iff_eq.mpr c11
          clear c11
          replace H := Option.bind_eq_some_iff.mp H
          obtain ⟨t250, A120, H⟩ := H
          replace H : (if x3_1.size + t250.size ≤ 9223372036854775807 then (spec_Text.l0 kj6 (x3_1 ++ t250) l0_0 (l0_0.length : Int) (wrap64 (x9_1 + 1)) l0_0 a0_1) else (none)) = some r := H
          have A12 := Aside0.mk A120
          clear A120
          by_cases c13 : x3_1.size + t250.size ≤ 9223372036854775807
          ·rw [if_pos c13] at H
           have c13b0 := eq_true c13
           have c13b1 : decide (x3_1.size + t250.size ≤ 9223372036854775807) = true := decide_eq_true c13
           try have c13b2 : (9223372036854775807 < x3_1.size + t250.size) = False := eq_false (Nat.not_lt.2 c13)
           have H' := Aside0.mk H
           clear H
           go_wp2_with (first | ((with_reducible refine gate_callee (f := 16) rfl ?_); refine goesL_ (some 27) rfl rfl Tryz.func16 (by kernel_rfl) rfl #[.slice A249_0 (rd_L5 l0_0 x9_1).length c249_0] rfl (by (try simp only [List.map_toArray, List.map_cons, List.map_nil]); first | done | rfl | (simp only [List.length_drop, List.length_take]; rfl)) ?_; (with_reducible refine (spec_FieldText.calls kj6 _ _ (rd_L5 l0_0 x9_1) t250 _ ?side1 ?side2 A12.out).mono ?_); (case side1 => repeat (first | exact (Kd.C_below HR249_0.out HB.out) | (with_reducible refine Kd.C_alloc ?_ _) | (with_reducible refine Kd.C_drewN ?_ _) | (with_reducible refine Kd.C_drew ?_))); (case side2 => exact HC249_0.out); rintro e w14 ⟨rfl, hb⟩; refine ⟨_, rfl, ?_⟩; have n0_ := Aside0.mk (blk_below (g := gb248) (o := .cells #[.slice (some ad249) l0_0.length c0_0, .bool a0_1] 30 (0, 0)) (by (with_reducible repeat (first | refine blk_drewN ?_ _ | refine blk_drew ?_ | refine blk_alloc ?_ _)); exact BK248.out) hb); have n1_ := Aside0.mk (below_step (by repeat (first | (with_reducible first | exact HB.out | apply below_alloc | apply pw_below_drewN | apply below_drew1 | refine below_set ?_ GE248.out) | exact HB.out)) hb); clear BK248; clear HB; have BK248 := n0_; have HB := n1_; clear n0_ n1_; (try clear hb); (try clear hb2); (try clear hk); (try clear hi)))
           go_roundg kj6
           case measure => have := HK1.out; have := HJ6.out; omega
           case rel => exact ⟨(x3_1 ++ t250), (wrap64 (x9_1 + 1)), (by first | rfl | (simp; done) | (simp [*]; done)), (by first | rfl | (simp; done) | (simp [*]; done)), H', ⟨by have := HK1.out; have := HJ6.out; omega⟩, ⟨by (with_reducible repeat (first | refine blk_drewN ?_ _ | refine blk_drew ?_ | refine blk_alloc ?_ _)); exact BK248.out⟩, ⟨by repeat (first | (with_reducible first | exact HB.out | apply below_alloc | apply pw_below_drewN | apply below_drew1 | refine below_set ?_ GE248.out) | exact HB.out)⟩⟩
          ·rw [if_neg c13] at H
           exact absurd H (by simp)
         ·rw [if_neg c11] at H
          have c11b0 : (x3_1.toList == ([] : List UInt8)) = false := beq_eq_false_iff_ne.mpr c11
          have c11b1 : (x3_1.toList != ([] : List UInt8)) = true := bne_iff_ne.mpr c11
          by_cases c15 : x3_1.size + 1 ≤ 9223372036854775807
          ·rw [if_pos c15] at H
           have c15b0 := eq_true c15
           have c15b1 : decide (x3_1.size + 1 ≤ 9223372036854775807) = true := decide_eq_true c15
           try have c15b2 : (9223372036854775807 < x3_1.size + 1) = False := eq_false (Nat.not_lt.2 c15)
           replace H := Option.bind_eq_some_iff.mp H
           obtain ⟨t251, A160, H⟩ := H
           replace H : (if (x3_1 ++ (⟨#[32]⟩ : ByteArray)).size + t251.size ≤ 9223372036854775807 then (spec_Text.l0 kj6 ((x3_1 ++ (⟨#[32]⟩ : ByteArray)) ++ t251) l0_0 (l0_0.length : Int) (wrap64 (x9_1 + 1)) l0_0 a0_1) else (none)) = some r := H
           have A16 := Aside0.mk A160
           clear A160
           by_cases c17 : (x3_1 ++ (⟨#[32]⟩ : ByteArray)).size + t251.size ≤ 9223372036854775807
           ·rw [if_pos c17] at H
            have c17b0 := eq_true c17
            have c17b1 : decide ((x3_1 ++ (⟨#[32]⟩ : ByteArray)).size + t251.size ≤ 9223372036854775807) = true := decide_eq_true c17
            try have c17b2 : (9223372036854775807 < (x3_1 ++ (⟨#[32]⟩ : ByteArray)).size + t251.size) = False := eq_false (Nat.not_lt.2 c17)
            (try have c17b3 : (9223372036854775807 < (x3_1.size + 1) + t251.size) = False := eq_false (Nat.not_lt.2 (by have h_ := c17; (try simp only [ByteArray.size_append] at h_); exact h_)))
            have H' := Aside0.mk H
            clear H
            go_wp2_with (first | ((with_reducible refine gate_callee (f := 16) rfl ?_); refine goesL_ (some 27) rfl rfl Tryz.func16 (by kernel_rfl) rfl #[.slice A249_0 (rd_L5 l0_0 x9_1).length c249_0] rfl (by (try simp only [List.map_toArray, List.map_cons, List.map_nil]); first | done | rfl | (simp only [List.length_drop, List.length_take]; rfl)) ?_; (with_reducible refine (spec_FieldText.calls kj6 _ _ (rd_L5 l0_0 x9_1) t251 _ ?side1 ?side2 A16.out).mono ?_); (case side1 => repeat (first | exact (Kd.C_below HR249_0.out HB.out) | (with_reducible refine Kd.C_alloc ?_ _) | (with_reducible refine Kd.C_drewN ?_ _) | (with_reducible refine Kd.C_drew ?_))); (case side2 => exact HC249_0.out); rintro e w18 ⟨rfl, hb⟩; refine ⟨_, rfl, ?_⟩; have n0_ := Aside0.mk (blk_below (g := gb248) (o := .cells #[.slice (some ad249) l0_0.length c0_0, .bool a0_1] 30 (0, 0)) (by (with_reducible repeat (first | refine blk_drewN ?_ _ | refine blk_drew ?_ | refine blk_alloc ?_ _)); exact BK248.out) hb); have n1_ := Aside0.mk (below_step (by repeat (first | (with_reducible first | exact HB.out | apply below_alloc | apply pw_below_drewN | apply below_drew1 | refine below_set ?_ GE248.out) | exact HB.out)) hb); clear BK248; clear HB; have BK248 := n0_; have HB := n1_; clear n0_ n1_; (try clear hb); (try clear hb2); (try clear hk); (try clear hi)))
            go_roundg kj6
            case measure => have := HK1.out; have := HJ6.out; omega
            case rel => exact ⟨((x3_1 ++ (⟨#[32]⟩ : ByteArray)) ++ t251), (wrap64 (x9_1 + 1)), (by first | rfl | (simp; done) | (simp [*]; done)), (by first | rfl | (simp; done) | (simp [*]; done)), H', ⟨by have := HK1.out; have := HJ6.out; omega⟩, ⟨by (with_reducible repeat (first | refine blk_drewN ?_ _ | refine blk_drew ?_ | refine blk_alloc ?_ _)); exact BK248.out⟩, ⟨by repeat (first | (with_reducible first | exact HB.out | apply below_alloc | apply pw_below_drewN | apply below_drew1 | refine below_set ?_ GE248.out) | exact HB.out)⟩⟩
           ·rw [if_neg c17] at H
            exact absurd H (by simp)
          ·rw [if_neg c15] at H
           exact absurd H (by simp)
     ·rw [if_neg c6] at H
      exact absurd H (by simp)
    ·rw [if_neg c5] at H
     exact absurd H (by simp)
   ·rw [if_neg c4] at H
    have c4b0 : decide (x9_1 < (l0_0.length : Int)) = false := decide_eq_false c4
    clear c4
    obtain rfl := Option.some.inj H
    go_wp2
    go_ret
    exact ⟨by first | rfl | (simp [errW_none, errW_some] <;> rfl) | (simp [*, errW_none, errW_some] <;> rfl), by repeat (first | (with_reducible first | exact HB.out | apply below_alloc | apply pw_below_drewN | apply below_drew1 | refine below_set ?_ GE248.out) | exact HB.out)⟩
mutual
def laws_expr.l0 : Nat → List (List (S69)) → Int → Int → List (List (S38)) → Bool → Option ((List (List (S38))) × Bool)
 | 0, _, _, _, _, _ => none
 | k + 1, x13, x14, x15, x107000, x107001 => if x15 < x14 then (if 0 ≤ x15 then (if x15 < (x13.length : Int) then (laws_expr.l1 k (([] : List (S38))) x13 x14 x15 (rd_L3 x13 x15) ((rd_L3 x13 x15).length : Int) 0 x107000 x107001) else (none)) else (none)) else (some (x107000, x107001))
def laws_expr.l1 : Nat → List (S38) → List (List (S69)) → Int → Int → List (S69) → Int → Int → List (List (S38)) → Bool → Option ((List (List (S38))) × Bool)
 | 0, _, _, _, _, _, _, _, _, _ => none
 | k + 1, x6, x13, x14, x15, x20, x21, x22, x107000, x107001 => if x22 < x21 then (if 0 ≤ x22 then (if x22 < (x20.length : Int) then (if x6.length < 4398046511104 then (laws_expr.l1 k (x6 ++ [(⟨(rd_T69 x20 x22).f0, (rd_T69 x20 x22).f1, (rd_T69 x20 x22).f2, (rd_T69 x20 x22).f3⟩ : S38)]) x13 x14 x15 x20 x21 (wrap64 (x22 + 1)) x107000 x107001) else (none)) else (none)) else (none)) else (if x107000.length < 5864062014805 then (laws_expr.l0 k x13 x14 (wrap64 (x15 + 1)) (x107000 ++ [x6]) x107001) else (none))
end
def laws_expr.f (k : Nat) (l0_0 : List (List (S69))) (a0_1 : Bool) : Option ((List (List (S38))) × Bool) := laws_expr.l0 k l0_0 (l0_0.length : Int) 0 ([] : List (List (S38))) a0_1
set_option maxHeartbeats 8000000 in
set_option maxRecDepth 100000 in
theorem laws_expr.calls (k : Nat) (A0_0 : Option Addr) (c0_0 : Nat) (l0_0 : List (List (S69))) (a0_1 : Bool) (r1 : List (List (S38))) (r2 : Bool) (w : World) (hr0_0 : Kd.C (Kd.slice 69 k69) w A0_0 l0_0.length l0_0) (hc0_0 : l0_0.length ≤ c0_0) (h : laws_expr.f k l0_0 a0_1 = some (r1, r2)) :
  Calls Tryz.prog 12 #[.agg #[.slice A0_0 l0_0.length c0_0, .bool a0_1]] w fun e w' => ∃ v0_ : Value, e = .returned (.agg #[v0_, .bool r2]) ∧ Kd.S (Kd.slice 38 k38) 36 w' w.heap.size (fun _ => True) v0_ r1 ∧ Below w.heap.size w w' := by
 have hu24 := Tryz.underlying24
 have hu30 := Tryz.underlying30
 have hu69 := Tryz.underlying69
 have hu38 := Tryz.underlying38
 have HR0_0 := Aside0.mk hr0_0
 have HC0_0 := Aside0.mk hc0_0
 clear hr0_0 hc0_0
 have HB := Aside0.mk (Below.refl w.heap.size w)
 have H : (laws_expr.l0 k l0_0 (l0_0.length : Int) 0 ([] : List (List (S38))) a0_1) = some (r1, r2) := h
 clear h
 have H' := Aside0.mk H
 clear H
 go_enter Tryz.func12, Tryz.ntmps12
 go_wp2_with (first | ((with_reducible refine gate_dst (N := 1) rfl ?_); refine box_event ?hg (N := 1) ?hd (cs := #[.slice A0_0 l0_0.length c0_0, .bool a0_1]) (t := 24) ?hr ?_; (case hd => rfl); (case hg => rfl); (case hr => first | (go_simp; done) | (go_simp; rfl)); intro gb104 hg w2 hbox hb; have n0_ := Aside0.mk (below_step (by repeat (first | (with_reducible first | exact HB.out | apply below_alloc | apply pw_below_drewN | apply below_drew1) | exact HB.out)) hb); have n1_ := Aside0.mk (hbox); have n2_ := Aside0.mk ((by rw [hg]; exact (below_size (by repeat (first | (with_reducible first | exact HB.out | apply below_alloc | apply pw_below_drewN | apply below_drew1) | exact HB.out))) : w.heap.size ≤ gb104)); have n3_ := Aside0.mk ((by rw [hg]; exact (below_size (by repeat (first | (with_reducible first | exact HB.out | apply below_alloc | apply pw_below_drewN | apply below_drew1) | exact HB.out))) : w.heap.size ≤ gb104)); clear HB; have HB := n0_; have BK104 := n1_; have GW104 := n2_; have GE104 := n3_; clear n0_ n1_ n2_ n3_; clear hb hbox hg) | ((with_reducible refine gate_dst (N := 2) rfl ?_); refine box_event ?hg (N := 2) ?hd (cs := #[.slice none 0 0, .bool false]) (t := 30) ?hr ?_; (case hd => rfl); (case hg => rfl); (case hr => first | (go_simp; done) | (go_simp; rfl)); intro gb105 hg w3 hbox hb; have n0_ := Aside0.mk (blk_below (g := gb104) (o := .cells #[.slice A0_0 l0_0.length c0_0, .bool a0_1] 24 (0, 0)) (by (with_reducible repeat (first | refine blk_drewN ?_ _ | refine blk_drew ?_ | refine blk_alloc ?_ _)); exact BK104.out) hb); have n1_ := Aside0.mk (below_step (by repeat (first | (with_reducible first | exact HB.out | apply below_alloc | apply pw_below_drewN | apply below_drew1 | refine below_set ?_ GE104.out) | exact HB.out)) hb); have n2_ := Aside0.mk (hbox); have n3_ := Aside0.mk ((by rw [hg]; exact (below_size (by repeat (first | (with_reducible first | exact HB.out | apply below_alloc | apply pw_below_drewN | apply below_drew1 | refine below_set ?_ GE104.out) | exact HB.out))) : w.heap.size ≤ gb105)); have n4_ := Aside0.mk ((by rw [hg]; exact (below_size (by repeat (first | (with_reducible first | exact HB.out | apply below_alloc | apply pw_below_drewN | apply below_drew1 | refine below_set ?_ GE104.out) | exact HB.out))) : w.heap.size ≤ gb105)); have n5_ := Aside0.mk ((by rw [hg]; exact Nat.ne_of_lt (blk_lt (g := gb104) (o := .cells #[.slice A0_0 l0_0.length c0_0, .bool a0_1] 24 (0, 0)) (by (with_reducible repeat (first | refine blk_drewN ?_ _ | refine blk_drew ?_ | refine blk_alloc ?_ _)); exact BK104.out)) : gb104 ≠ gb105)); have n6_ := Aside0.mk ((by rw [hg]; exact Nat.ne_of_gt (blk_lt (g := gb104) (o := .cells #[.slice A0_0 l0_0.length c0_0, .bool a0_1] 24 (0, 0)) (by (with_reducible repeat (first | refine blk_drewN ?_ _ | refine blk_drew ?_ | refine blk_alloc ?_ _)); exact BK104.out)) : gb105 ≠ gb104)); clear BK104; clear HB; have BK104 := n0_; have HB := n1_; have BK105 := n2_; have GW105 := n3_; have GE105 := n4_; have NB104_105 := n5_; have NB105_104 := n6_; clear n0_ n1_ n2_ n3_ n4_ n5_ n6_; clear hb hbox hg; have hnb4 := NB104_105.out; have hnc4 := NB105_104.out; have hcz5_0 : w3.cell? ⟨gb104, 0, none⟩ = some (.slice A0_0 l0_0.length c0_0) := (blk_cell BK104.out 0).trans rfl; have hcz5_1 : w3.cell? ⟨gb104, 1, none⟩ = some (.bool a0_1) := (blk_cell BK104.out 1).trans rfl; have hfz5_0 := blk_frozen BK104.out 0; have hfz5_1 := blk_frozen BK104.out 1) | ((with_reducible refine gate_dst (N := 3) rfl ?_); refine box_event ?hg (N := 3) ?hd (cs := #[.slice none 0 0, .bool false]) (t := 30) ?hr ?_; (case hd => rfl); (case hg => rfl); (case hr => first | (go_simp; done) | (go_simp; rfl)); intro gb106 hg w6 hbox hb; have n0_ := Aside0.mk (blk_below (g := gb104) (o := .cells #[.slice A0_0 l0_0.length c0_0, .bool a0_1] 24 (0, 0)) (by (with_reducible repeat (first | refine blk_drewN ?_ _ | refine blk_drew ?_ | refine blk_alloc ?_ _)); exact BK104.out) hb); have n1_ := Aside0.mk (blk_below (g := gb105) (o := .cells #[.slice none 0 0, .bool false] 30 (0, 0)) (by (with_reducible repeat (first | refine blk_drewN ?_ _ | refine blk_drew ?_ | refine blk_alloc ?_ _)); exact BK105.out) hb); have n2_ := Aside0.mk (below_step (by repeat (first | (with_reducible first | exact HB.out | apply below_alloc | apply pw_below_drewN | apply below_drew1 | refine below_set ?_ GE104.out | refine below_set ?_ GE105.out) | exact HB.out)) hb); have n3_ := Aside0.mk (hbox); have n4_ := Aside0.mk ((by rw [hg]; exact (below_size (by repeat (first | (with_reducible first | exact HB.out | apply below_alloc | apply pw_below_drewN | apply below_drew1 | refine below_set ?_ GE104.out | refine below_set ?_ GE105.out) | exact HB.out))) : w.heap.size ≤ gb106)); have n5_ := Aside0.mk ((by rw [hg]; exact (below_size (by repeat (first | (with_reducible first | exact HB.out | apply below_alloc | apply pw_below_drewN | apply below_drew1 | refine below_set ?_ GE104.out | refine below_set ?_ GE105.out) | exact HB.out))) : w.heap.size ≤ gb106)); have n6_ := Aside0.mk ((by rw [hg]; exact Nat.ne_of_lt (blk_lt (g := gb104) (o := .cells #[.slice A0_0 l0_0.length c0_0, .bool a0_1] 24 (0, 0)) (by (with_reducible repeat (first | refine blk_drewN ?_ _ | refine blk_drew ?_ | refine blk_alloc ?_ _)); exact BK104.out)) : gb104 ≠ gb106)); have n7_ := Aside0.mk ((by rw [hg]; exact Nat.ne_of_gt (blk_lt (g := gb104) (o := .cells #[.slice A0_0 l0_0.length c0_0, .bool a0_1] 24 (0, 0)) (by (with_reducible repeat (first | refine blk_drewN ?_ _ | refine blk_drew ?_ | refine blk_alloc ?_ _)); exact BK104.out)) : gb106 ≠ gb104)); have n8_ := Aside0.mk ((by rw [hg]; exact Nat.ne_of_lt (blk_lt (g := gb105) (o := .cells #[.slice none 0 0, .bool false] 30 (0, 0)) (by (with_reducible repeat (first | refine blk_drewN ?_ _ | refine blk_drew ?_ | refine blk_alloc ?_ _)); exact BK105.out)) : gb105 ≠ gb106)); have n9_ := Aside0.mk ((by rw [hg]; exact Nat.ne_of_gt (blk_lt (g := gb105) (o := .cells #[.slice none 0 0, .bool false] 30 (0, 0)) (by (with_reducible repeat (first | refine blk_drewN ?_ _ | refine blk_drew ?_ | refine blk_alloc ?_ _)); exact BK105.out)) : gb106 ≠ gb105)); clear BK104; clear BK105; clear HB; have BK104 := n0_; have BK105 := n1_; have HB := n2_; have BK106 := n3_; have GW106 := n4_; have GE106 := n5_; have NB104_106 := n6_; have NB106_104 := n7_; have NB105_106 := n8_; have NB106_105 := n9_; clear n0_ n1_ n2_ n3_ n4_ n5_ n6_ n7_ n8_ n9_; clear hb hbox hg; have hnb7 := NB106_104.out; have hnc7 := NB104_106.out; have hnb8 := NB106_105.out; have hnc8 := NB105_106.out; have hcz9_0 : w6.cell? ⟨gb106, 0, none⟩ = some (.slice none 0 0) := (blk_cell BK106.out 0).trans rfl; have hcz9_1 : w6.cell? ⟨gb106, 1, none⟩ = some (.bool false) := (blk_cell BK106.out 1).trans rfl; have hfz9_0 := blk_frozen BK106.out 0; have hfz9_1 := blk_frozen BK106.out 1; have hcz10_0 : w6.cell? ⟨gb104, 0, none⟩ = some (.slice A0_0 l0_0.length c0_0) := (blk_cell BK104.out 0).trans rfl; have hcz10_1 : w6.cell? ⟨gb104, 1, none⟩ = some (.bool a0_1) := (blk_cell BK104.out 1).trans rfl; have hfz10_0 := blk_frozen BK104.out 0; have hfz10_1 := blk_frozen BK104.out 1))
 go_loopg [15] k (fun kq v15 w' => ∃ (x15_1 : Int) (x107000_1 : List (List (S38))) (u107000 : Value), v15 = .int .i64 x15_1 ∧ Aside0 (laws_expr.l0 kq l0_0 (l0_0.length : Int) x15_1 x107000_1 a0_1 = some (r1, r2)) ∧ Aside0 (kq ≤ k) ∧ Aside0 (Kd.S (Kd.slice 38 k38) 36 w' w.heap.size (fun _ => True) u107000 x107000_1) ∧ Aside0 (w'.heap[gb104]? = some (.cells #[(.slice A0_0 l0_0.length c0_0), .bool a0_1] 24 (0, 0))) ∧ Aside0 (w'.heap[gb105]? = some (.cells #[(.slice none 0 0), .bool false] 30 (0, 0))) ∧ Aside0 (w'.heap[gb106]? = some (.cells #[u107000, .bool a0_1] 30 (0, 0))) ∧ Aside0 (Below w.heap.size w w'))
 case atStart => exact ⟨(0), (([] : List (List (S38)))), (.slice none 0 0), (by first | rfl | (simp; done) | (simp [*]; done)), H', ⟨Nat.le_refl _⟩, ⟨by first | exact Kd.S_nil _ _ _ _ _ | exact Kd.N_nil _ _ _ _ _ | exact Kd.V_nil _ _ _ _ _ | exact Kd.Q_nil _ _ _ _ _ | exact Kd.R_nil _ _ _ _ _⟩, ⟨by (with_reducible repeat (first | refine blk_drewN ?_ _ | refine blk_drew ?_ | refine blk_alloc ?_ _)); refine blk_far ?_ NB104_106.out _; (with_reducible repeat (first | refine blk_drewN ?_ _ | refine blk_drew ?_ | refine blk_alloc ?_ _)); refine blk_far ?_ NB104_106.out _; (with_reducible repeat (first | refine blk_drewN ?_ _ | refine blk_drew ?_ | refine blk_alloc ?_ _)); exact BK104.out⟩, ⟨by (with_reducible repeat (first | refine blk_drewN ?_ _ | refine blk_drew ?_ | refine blk_alloc ?_ _)); refine blk_far ?_ NB105_106.out _; (with_reducible repeat (first | refine blk_drewN ?_ _ | refine blk_drew ?_ | refine blk_alloc ?_ _)); refine blk_far ?_ NB105_106.out _; (with_reducible repeat (first | refine blk_drewN ?_ _ | refine blk_drew ?_ | refine blk_alloc ?_ _)); exact BK105.out⟩, ⟨by (with_reducible repeat (first | refine blk_drewN ?_ _ | refine blk_drew ?_ | refine blk_alloc ?_ _)); refine blk_put (cs := #[.slice none 0 0, .bool false]) ?_ 1 _ rfl; (with_reducible repeat (first | refine blk_drewN ?_ _ | refine blk_drew ?_ | refine blk_alloc ?_ _)); refine blk_put (cs := #[.slice none 0 0, .bool false]) ?_ 0 _ rfl; (with_reducible repeat (first | refine blk_drewN ?_ _ | refine blk_drew ?_ | refine blk_alloc ?_ _)); exact BK106.out⟩, ⟨by repeat (first | (with_reducible first | exact HB.out | apply below_alloc | apply pw_below_drewN | apply below_drew1 | refine below_set ?_ GE104.out | refine below_set ?_ GE105.out | refine below_set ?_ GE106.out) | exact HB.out)⟩⟩
 case round =>
  clear H'
  obtain ⟨x15_1, x107000_1, u107000, rfl, HA, HK1, HO_107000, BK104, BK105, BK106, HB⟩ := hrel
  cases gk with
  | zero => exact absurd HA.out (by simp [laws_expr.l0])
  | succ k1 =>
   have H := HA.out
   clear HA
   simp only [laws_expr.l0] at H
   by_cases c11 : x15_1 < (l0_0.length : Int)
   ·rw [if_pos c11] at H
    have c11b0 : decide (x15_1 < (l0_0.length : Int)) = true := decide_eq_true c11
    clear c11
    by_cases c12 : 0 ≤ x15_1
    ·rw [if_pos c12] at H
     have c12b0 : decide (0 ≤ x15_1) = true := decide_eq_true c12
     clear c12
     by_cases c13 : x15_1 < (l0_0.length : Int)
     ·rw [if_pos c13] at H
      have c13b0 : decide (x15_1 < (l0_0.length : Int)) = true := decide_eq_true c13
      clear c13
      obtain ⟨y108, hy108⟩ : ∃ y_ : List (S38), y_ = (([] : List (S38))) := ⟨_, rfl⟩
      replace H : (laws_expr.l1 k1 y108 l0_0 (l0_0.length : Int) x15_1 (rd_L3 l0_0 x15_1) ((rd_L3 l0_0 x15_1).length : Int) 0 x107000_1 a0_1) = some (r1, r2) := by first | (rw [hy108]; with_reducible exact H) | (have H2_ := (Option.bind_some _ _).symm.trans H; rw [hy108]; with_reducible exact H2_) | (have H2_ := (Option.bind_some _ _).symm.trans H; with_reducible exact H2_) | with_reducible exact H | (rw [hy108]; exact H) | exact H
      have Ny108 := Aside0.mk hy108
      clear hy108
      have H' := Aside0.mk H
      clear H
      have p107 : 0 ≤ (x15_1 : Int) := of_decide_eq_true (by first | (with_reducible assumption) | assumption)
      have q107 : x15_1 < (l0_0.length : Int) := of_decide_eq_true (by first | (with_reducible assumption) | assumption)
      obtain ⟨ad107, A107_0, c107_0, e107, hx107_0, hl107_0, hi107_0⟩ := at_L3 HR0_0.out x15_1 p107 q107
      cases e107
      replace hx107_0 := (HB.out.cell (World.block_lt_of_cell? w _ hx107_0)).trans hx107_0
      have HR107_0 := Aside0.mk hi107_0
      have HC107_0 := Aside0.mk hl107_0
      clear hi107_0 hl107_0
      replace p107 := eq_true p107
      replace q107 := eq_true q107
      go_wp2_with (first | ((with_reducible refine gate_dst (N := 19) rfl ?_); refine Kd.R_lit k38 _ 38 ?hg (N := 19) ?hd (xs := ([] : List (S38))) (inner := []) (ok := fun _ => True) (okp := fun _ => True) ?hr ?hp (fun _ hk => hk) trivial (Below.refl _ _) (Nat.le_refl _) (by simp) ?_; (case hd => rfl); (case hg => rfl); (case hr => first | (go_simp; done) | (go_simp; rfl)); (case hp => exact (Reps.none _ _)); intro v109 w14 ho15 hb hg_ hnew_; clear hg_ hnew_; (first | rw [← Ny108.out] at ho15 | (simp only [Int.reduceToNat] at ho15; rw [← Ny108.out] at ho15)); have n0_ := Aside0.mk (Kd.S_elder' (by (with_reducible repeat (first | apply Kd.S_alloc | apply Kd.S_drewN | apply Kd.S_drew)); exact HO_107000.out) (Kd.R_base ho15) hb); have n1_ := Aside0.mk (Kd.R_lower ho15 (below_size (by repeat (first | (with_reducible first | exact HB.out | apply below_alloc | apply pw_below_drewN | apply below_drew1 | refine below_set ?_ GE104.out | refine below_set ?_ GE105.out | refine below_set ?_ GE106.out) | exact HB.out)))); have n2_ := Aside0.mk (blk_below (g := gb104) (o := .cells #[.slice (some ad107) l0_0.length c0_0, .bool a0_1] 24 (0, 0)) (by (with_reducible repeat (first | refine blk_drewN ?_ _ | refine blk_drew ?_ | refine blk_alloc ?_ _)); exact BK104.out) hb); have n3_ := Aside0.mk (blk_below (g := gb105) (o := .cells #[.slice none 0 0, .bool false] 30 (0, 0)) (by (with_reducible repeat (first | refine blk_drewN ?_ _ | refine blk_drew ?_ | refine blk_alloc ?_ _)); exact BK105.out) hb); have n4_ := Aside0.mk (blk_below (g := gb106) (o := .cells #[u107000, .bool a0_1] 30 (0, 0)) (by (with_reducible repeat (first | refine blk_drewN ?_ _ | refine blk_drew ?_ | refine blk_alloc ?_ _)); exact BK106.out) hb); have n5_ := Aside0.mk (below_step (by repeat (first | (with_reducible first | exact HB.out | apply below_alloc | apply pw_below_drewN | apply below_drew1 | refine below_set ?_ GE104.out | refine below_set ?_ GE105.out | refine below_set ?_ GE106.out) | exact HB.out)) hb); clear HO_107000; clear BK104; clear BK105; clear BK106; clear HB; have HO_107000 := n0_; have HO110 := n1_; have BK104 := n2_; have BK105 := n3_; have BK106 := n4_; have HB := n5_; clear n0_ n1_ n2_ n3_ n4_ n5_; clear hb ho15))
      go_loopg [6, 22] k1 (fun kq v6 v22 w' => ∃ (x6_2 : List (S38)) (x22_2 : Int), v22 = .int .i64 x22_2 ∧ Aside0 (laws_expr.l1 kq x6_2 l0_0 (l0_0.length : Int) x15_1 (rd_L3 l0_0 x15_1) ((rd_L3 l0_0 x15_1).length : Int) x22_2 x107000_1 a0_1 = some (r1, r2)) ∧ Aside0 (kq ≤ k1) ∧ Aside0 (Kd.R k38 38 w' w.heap.size (fun _ => True) v6 x6_2) ∧ Aside0 (Kd.S (Kd.slice 38 k38) 36 w' w.heap.size (fun k_ => some k_ ≠ (v6 : Value).ownBlock) u107000 x107000_1) ∧ Aside0 (w'.heap[gb104]? = some (.cells #[(.slice (some ad107) l0_0.length c0_0), .bool a0_1] 24 (0, 0))) ∧ Aside0 (w'.heap[gb105]? = some (.cells #[(.slice none 0 0), .bool false] 30 (0, 0))) ∧ Aside0 (w'.heap[gb106]? = some (.cells #[u107000, .bool a0_1] 30 (0, 0))) ∧ Aside0 (Below w.heap.size w w'))
      case atStart => exact ⟨(y108), (0), (by first | rfl | (simp; done) | (simp [*]; done)), H', ⟨Nat.le_refl _⟩, ⟨by (with_reducible repeat (first | apply Kd.R_alloc | apply Kd.R_drewN | apply Kd.R_drew)); exact HO110.out⟩, ⟨by (with_reducible repeat (first | apply Kd.S_alloc | apply Kd.S_drewN | apply Kd.S_drew)); exact Kd.S_mono HO_107000.out (fun _ hk => hk.2)⟩, ⟨by (with_reducible repeat (first | refine blk_drewN ?_ _ | refine blk_drew ?_ | refine blk_alloc ?_ _)); exact BK104.out⟩, ⟨by (with_reducible repeat (first | refine blk_drewN ?_ _ | refine blk_drew ?_ | refine blk_alloc ?_ _)); exact BK105.out⟩, ⟨by (with_reducible repeat (first | refine blk_drewN ?_ _ | refine blk_drew ?_ | refine blk_alloc ?_ _)); exact BK106.out⟩, ⟨by repeat (first | (with_reducible first | exact HB.out | apply below_alloc | apply pw_below_drewN | apply below_drew1 | refine below_set ?_ GE104.out | refine below_set ?_ GE105.out | refine below_set ?_ GE106.out) | exact HB.out)⟩⟩
      case round =>
       clear H'
       obtain ⟨x6_2, x22_2, rfl, HA, HK2, HO_6, HO_107000, BK104, BK105, BK106, HB⟩ := hrel
       cases gk with
       | zero => exact absurd HA.out (by simp [laws_expr.l1])
       | succ k2 =>
        have H := HA.out
        clear HA
        simp only [laws_expr.l1] at H
        by_cases c16 : x22_2 < ((rd_L3 l0_0 x15_1).length : Int)
        ·rw [if_pos c16] at H
         have c16b0 : decide (x22_2 < ((rd_L3 l0_0 x15_1).length : Int)) = true := decide_eq_true c16
         clear c16
         by_cases c17 : 0 ≤ x22_2
         ·rw [if_pos c17] at H
          have c17b0 : decide (0 ≤ x22_2) = true := decide_eq_true c17
          clear c17
          by_cases c18 : x22_2 < ((rd_L3 l0_0 x15_1).length : Int)
          ·rw [if_pos c18] at H
           have c18b0 : decide (x22_2 < ((rd_L3 l0_0 x15_1).length : Int)) = true := decide_eq_true c18
           clear c18
           by_cases c19 : x6_2.length < 4398046511104
           ·rw [if_pos c19] at H
            have LMc19 := Aside0.mk c19
            clear c19
            obtain ⟨y113, hy113⟩ : ∃ y_ : List (S38), y_ = (x6_2 ++ [(⟨(rd_T69 (rd_L3 l0_0 x15_1) x22_2).f0, (rd_T69 (rd_L3 l0_0 x15_1) x22_2).f1, (rd_T69 (rd_L3 l0_0 x15_1) x22_2).f2, (rd_T69 (rd_L3 l0_0 x15_1) x22_2).f3⟩ : S38)]) := ⟨_, rfl⟩
            replace H : (laws_expr.l1 k2 y113 l0_0 (l0_0.length : Int) x15_1 (rd_L3 l0_0 x15_1) ((rd_L3 l0_0 x15_1).length : Int) (wrap64 (x22_2 + 1)) x107000_1 a0_1) = some (r1, r2) := by first | (rw [hy113]; with_reducible exact H) | (have H2_ := (Option.bind_some _ _).symm.trans H; rw [hy113]; with_reducible exact H2_) | (have H2_ := (Option.bind_some _ _).symm.trans H; with_reducible exact H2_) | with_reducible exact H | (rw [hy113]; exact H) | exact H
            have Ny113 := Aside0.mk hy113
            clear hy113
            have H' := Aside0.mk H
            clear H
            have p111 : 0 ≤ (x22_2 : Int) := of_decide_eq_true (by first | (with_reducible assumption) | assumption)
            have q111 : x22_2 < ((rd_L3 l0_0 x15_1).length : Int) := of_decide_eq_true (by first | (with_reducible assumption) | assumption)
            obtain ⟨ad111, e111, hx111_0, hx111_1, hx111_2, hx111_3⟩ := at_T69 HR107_0.out x22_2 p111 q111
            cases e111
            replace hx111_0 := (HB.out.cell (World.block_lt_of_cell? w _ hx111_0)).trans hx111_0
            replace hx111_1 := (HB.out.cell (World.block_lt_of_cell? w _ hx111_1)).trans hx111_1
            replace hx111_2 := (HB.out.cell (World.block_lt_of_cell? w _ hx111_2)).trans hx111_2
            replace hx111_3 := (HB.out.cell (World.block_lt_of_cell? w _ hx111_3)).trans hx111_3
            replace p111 := eq_true p111
            replace q111 := eq_true q111
            go_wp2_with (first | ((with_reducible refine gate_dst (N := 8) rfl ?_); refine box_event ?hg (N := 8) ?hd (cs := #[.bool false, .int .i64 0, .int .i64 0, .int .i64 0]) (t := 69) ?hr ?_; (case hd => rfl); (case hg => rfl); (case hr => first | (go_simp; done) | (go_simp; rfl)); intro gb112 hg w20 hbox hb; have n0_ := Aside0.mk (Kd.R_below (by (with_reducible repeat (first | apply Kd.R_alloc | apply Kd.R_drewN | apply Kd.R_drew)); exact HO_6.out) hb); have n1_ := Aside0.mk (Kd.S_below (by (with_reducible repeat (first | apply Kd.S_alloc | apply Kd.S_drewN | apply Kd.S_drew)); exact HO_107000.out) hb); have n2_ := Aside0.mk (blk_below (g := gb104) (o := .cells #[.slice (some ad107) l0_0.length c0_0, .bool a0_1] 24 (0, 0)) (by (with_reducible repeat (first | refine blk_drewN ?_ _ | refine blk_drew ?_ | refine blk_alloc ?_ _)); exact BK104.out) hb); have n3_ := Aside0.mk (blk_below (g := gb105) (o := .cells #[.slice none 0 0, .bool false] 30 (0, 0)) (by (with_reducible repeat (first | refine blk_drewN ?_ _ | refine blk_drew ?_ | refine blk_alloc ?_ _)); exact BK105.out) hb); have n4_ := Aside0.mk (blk_below (g := gb106) (o := .cells #[u107000, .bool a0_1] 30 (0, 0)) (by (with_reducible repeat (first | refine blk_drewN ?_ _ | refine blk_drew ?_ | refine blk_alloc ?_ _)); exact BK106.out) hb); have n5_ := Aside0.mk (below_step (by repeat (first | (with_reducible first | exact HB.out | apply below_alloc | apply pw_below_drewN | apply below_drew1 | refine below_set ?_ GE104.out | refine below_set ?_ GE105.out | refine below_set ?_ GE106.out) | exact HB.out)) hb); have n6_ := Aside0.mk (hbox); have n7_ := Aside0.mk ((by rw [hg]; exact (below_size (by repeat (first | (with_reducible first | exact HB.out | apply below_alloc | apply pw_below_drewN | apply below_drew1 | refine below_set ?_ GE104.out | refine below_set ?_ GE105.out | refine below_set ?_ GE106.out) | exact HB.out))) : w.heap.size ≤ gb112)); have n8_ := Aside0.mk ((by rw [hg]; exact (below_size (by repeat (first | (with_reducible first | exact HB.out | apply below_alloc | apply pw_below_drewN | apply below_drew1 | refine below_set ?_ GE104.out | refine below_set ?_ GE105.out | refine below_set ?_ GE106.out) | exact HB.out))) : w.heap.size ≤ gb112)); have n9_ := Aside0.mk ((by rw [hg]; exact Nat.ne_of_lt (blk_lt (g := gb104) (o := .cells #[.slice (some ad107) l0_0.length c0_0, .bool a0_1] 24 (0, 0)) (by (with_reducible repeat (first | refine blk_drewN ?_ _ | refine blk_drew ?_ | refine blk_alloc ?_ _)); exact BK104.out)) : gb104 ≠ gb112)); have n10_ := Aside0.mk ((by rw [hg]; exact Nat.ne_of_gt (blk_lt (g := gb104) (o := .cells #[.slice (some ad107) l0_0.length c0_0, .bool a0_1] 24 (0, 0)) (by (with_reducible repeat (first | refine blk_drewN ?_ _ | refine blk_drew ?_ | refine blk_alloc ?_ _)); exact BK104.out)) : gb112 ≠ gb104)); have n11_ := Aside0.mk ((by rw [hg]; exact Nat.ne_of_lt (blk_lt (g := gb105) (o := .cells #[.slice none 0 0, .bool false] 30 (0, 0)) (by (with_reducible repeat (first | refine blk_drewN ?_ _ | refine blk_drew ?_ | refine blk_alloc ?_ _)); exact BK105.out)) : gb105 ≠ gb112)); have n12_ := Aside0.mk ((by rw [hg]; exact Nat.ne_of_gt (blk_lt (g := gb105) (o := .cells #[.slice none 0 0, .bool false] 30 (0, 0)) (by (with_reducible repeat (first | refine blk_drewN ?_ _ | refine blk_drew ?_ | refine blk_alloc ?_ _)); exact BK105.out)) : gb112 ≠ gb105)); have n13_ := Aside0.mk ((by rw [hg]; exact Nat.ne_of_lt (blk_lt (g := gb106) (o := .cells #[u107000, .bool a0_1] 30 (0, 0)) (by (with_reducible repeat (first | refine blk_drewN ?_ _ | refine blk_drew ?_ | refine blk_alloc ?_ _)); exact BK106.out)) : gb106 ≠ gb112)); have n14_ := Aside0.mk ((by rw [hg]; exact Nat.ne_of_gt (blk_lt (g := gb106) (o := .cells #[u107000, .bool a0_1] 30 (0, 0)) (by (with_reducible repeat (first | refine blk_drewN ?_ _ | refine blk_drew ?_ | refine blk_alloc ?_ _)); exact BK106.out)) : gb112 ≠ gb106)); clear HO_6; clear HO_107000; clear BK104; clear BK105; clear BK106; clear HB; have HO_6 := n0_; have HO_107000 := n1_; have BK104 := n2_; have BK105 := n3_; have BK106 := n4_; have HB := n5_; have BK112 := n6_; have GW112 := n7_; have GE112 := n8_; have NB104_112 := n9_; have NB112_104 := n10_; have NB105_112 := n11_; have NB112_105 := n12_; have NB106_112 := n13_; have NB112_106 := n14_; clear n0_ n1_ n2_ n3_ n4_ n5_ n6_ n7_ n8_ n9_ n10_ n11_ n12_ n13_ n14_; clear hb hbox hg; have hnb21 := NB112_104.out; have hnc21 := NB104_112.out; have hnb22 := NB112_105.out; have hnc22 := NB105_112.out; have hnb23 := NB112_106.out; have hnc23 := NB106_112.out; have hcz24_0 : w20.cell? ⟨gb112, 0, none⟩ = some (.bool false) := (blk_cell BK112.out 0).trans rfl; have hcz24_1 : w20.cell? ⟨gb112, 1, none⟩ = some (.int .i64 0) := (blk_cell BK112.out 1).trans rfl; have hcz24_2 : w20.cell? ⟨gb112, 2, none⟩ = some (.int .i64 0) := (blk_cell BK112.out 2).trans rfl; have hcz24_3 : w20.cell? ⟨gb112, 3, none⟩ = some (.int .i64 0) := (blk_cell BK112.out 3).trans rfl; have hfz24_0 := blk_frozen BK112.out 0; have hfz24_1 := blk_frozen BK112.out 1; have hfz24_2 := blk_frozen BK112.out 2; have hfz24_3 := blk_frozen BK112.out 3) | ((with_reducible refine gate_builtin (b := .append) (xs := #[.tmp 26, .tmp 36]) rfl ?_); at_builtin; refine Kd.R_append k38 (w0 := w) w.heap.size rfl (.tmp 26) (.tmp 36) 36 38 (.agg #[(.bool false), (.int .i64 0), (.int .i64 0), (.int .i64 0)]) 32 rfl Tryz.underlying36 info38 rfl (by decide) (by omega) u6 x6_2 (⟨(rd_T69 (rd_L3 l0_0 x15_1) x22_2).f0, (rd_T69 (rd_L3 l0_0 x15_1) x22_2).f1, (rd_T69 (rd_L3 l0_0 x15_1) x22_2).f2, (rd_T69 (rd_L3 l0_0 x15_1) x22_2).f3⟩ : S38) [.bool ((rd_T69 (rd_L3 l0_0 x15_1) x22_2).f0), .int .i64 ((rd_T69 (rd_L3 l0_0 x15_1) x22_2).f1), .int .i64 ((rd_T69 (rd_L3 l0_0 x15_1) x22_2).f2), .int .i64 ((rd_T69 (rd_L3 l0_0 x15_1) x22_2).f3)] (fun _ => True) (fun _ => False) rfl (by first | (go_simp; done) | (go_simp; rfl)) ?aP (fun _ hk => hk.elim) ?aF ?aO ?aB ?aS ?aL ?_; (case aP => exact k38_mkM _ _ _ (⟨(rd_T69 (rd_L3 l0_0 x15_1) x22_2).f0, (rd_T69 (rd_L3 l0_0 x15_1) x22_2).f1, (rd_T69 (rd_L3 l0_0 x15_1) x22_2).f2, (rd_T69 (rd_L3 l0_0 x15_1) x22_2).f3⟩ : S38)); (case aB => exact (by repeat (first | (with_reducible first | exact HB.out | apply below_alloc | apply pw_below_drewN | apply below_drew1 | refine below_set ?_ GE104.out | refine below_set ?_ GE105.out | refine below_set ?_ GE106.out | refine below_set ?_ GE112.out) | exact HB.out))); (case aF => exact (fun _ _ => trivial)); (case aO => exact (by (with_reducible repeat (first | apply Kd.R_alloc | apply Kd.R_drewN | apply Kd.R_drew)); exact Kd.R_mono (Kd.R_far (p := ⟨gb112, 3, none⟩) (Kd.R_far (p := ⟨gb112, 2, none⟩) (Kd.R_far (p := ⟨gb112, 1, none⟩) (Kd.R_far (p := ⟨gb112, 0, none⟩) (Kd.R_types HO_6.out BK112.out (by decide)) (fun _ hk => hk.2) (.bool ((rd_T69 (rd_L3 l0_0 x15_1) x22_2).f0))) (fun _ hk => hk.2) (.int .i64 ((rd_T69 (rd_L3 l0_0 x15_1) x22_2).f1))) (fun _ hk => hk.2) (.int .i64 ((rd_T69 (rd_L3 l0_0 x15_1) x22_2).f2))) (fun _ hk => hk.2) (.int .i64 ((rd_T69 (rd_L3 l0_0 x15_1) x22_2).f3))) (fun _ hk => trivial))); (case aS => exact (below_size (by repeat (first | (with_reducible first | exact HB.out | apply below_alloc | apply pw_below_drewN | apply below_drew1 | refine below_set ?_ GE104.out | refine below_set ?_ GE105.out | refine below_set ?_ GE106.out | refine below_set ?_ GE112.out) | exact HB.out)))); (case aL => have := LMc19.out; omega); intro v114 w25 ho hb hg hat; rw [← Ny113.out] at ho; have n0_ := Aside0.mk (Kd.S_after (ok := (fun _ => True)) (by (with_reducible repeat (first | apply Kd.S_alloc | apply Kd.S_drewN | apply Kd.S_drew)); exact Kd.S_mono (Kd.S_far (p := ⟨gb112, 3, none⟩) (Kd.S_far (p := ⟨gb112, 2, none⟩) (Kd.S_far (p := ⟨gb112, 1, none⟩) (Kd.S_far (p := ⟨gb112, 0, none⟩) (Kd.S_types HO_107000.out BK112.out (by decide)) (fun _ hk => hk.2) (.bool ((rd_T69 (rd_L3 l0_0 x15_1) x22_2).f0))) (fun _ hk => hk.2) (.int .i64 ((rd_T69 (rd_L3 l0_0 x15_1) x22_2).f1))) (fun _ hk => hk.2) (.int .i64 ((rd_T69 (rd_L3 l0_0 x15_1) x22_2).f2))) (fun _ hk => hk.2) (.int .i64 ((rd_T69 (rd_L3 l0_0 x15_1) x22_2).f3))) (fun _ hk => ⟨trivial, hk.1⟩)) hg hat); have n1_ := Aside0.mk (blk_grown (g := gb104) (o := .cells #[.slice (some ad107) l0_0.length c0_0, .bool a0_1] 24 (0, 0)) (by (with_reducible repeat (first | refine blk_drewN ?_ _ | refine blk_drew ?_ | refine blk_alloc ?_ _)); refine blk_far ?_ NB104_112.out _; (with_reducible repeat (first | refine blk_drewN ?_ _ | refine blk_drew ?_ | refine blk_alloc ?_ _)); refine blk_far ?_ NB104_112.out _; (with_reducible repeat (first | refine blk_drewN ?_ _ | refine blk_drew ?_ | refine blk_alloc ?_ _)); refine blk_far ?_ NB104_112.out _; (with_reducible repeat (first | refine blk_drewN ?_ _ | refine blk_drew ?_ | refine blk_alloc ?_ _)); refine blk_far ?_ NB104_112.out _; (with_reducible repeat (first | refine blk_drewN ?_ _ | refine blk_drew ?_ | refine blk_alloc ?_ _)); exact BK104.out) hg (Kd.R_ne HO_6.out BK104.out (by decide))); have n2_ := Aside0.mk (blk_grown (g := gb105) (o := .cells #[.slice none 0 0, .bool false] 30 (0, 0)) (by (with_reducible repeat (first | refine blk_drewN ?_ _ | refine blk_drew ?_ | refine blk_alloc ?_ _)); refine blk_far ?_ NB105_112.out _; (with_reducible repeat (first | refine blk_drewN ?_ _ | refine blk_drew ?_ | refine blk_alloc ?_ _)); refine blk_far ?_ NB105_112.out _; (with_reducible repeat (first | refine blk_drewN ?_ _ | refine blk_drew ?_ | refine blk_alloc ?_ _)); refine blk_far ?_ NB105_112.out _; (with_reducible repeat (first | refine blk_drewN ?_ _ | refine blk_drew ?_ | refine blk_alloc ?_ _)); refine blk_far ?_ NB105_112.out _; (with_reducible repeat (first | refine blk_drewN ?_ _ | refine blk_drew ?_ | refine blk_alloc ?_ _)); exact BK105.out) hg (Kd.R_ne HO_6.out BK105.out (by decide))); have n3_ := Aside0.mk (blk_grown (g := gb106) (o := .cells #[u107000, .bool a0_1] 30 (0, 0)) (by (with_reducible repeat (first | refine blk_drewN ?_ _ | refine blk_drew ?_ | refine blk_alloc ?_ _)); refine blk_far ?_ NB106_112.out _; (with_reducible repeat (first | refine blk_drewN ?_ _ | refine blk_drew ?_ | refine blk_alloc ?_ _)); refine blk_far ?_ NB106_112.out _; (with_reducible repeat (first | refine blk_drewN ?_ _ | refine blk_drew ?_ | refine blk_alloc ?_ _)); refine blk_far ?_ NB106_112.out _; (with_reducible repeat (first | refine blk_drewN ?_ _ | refine blk_drew ?_ | refine blk_alloc ?_ _)); refine blk_far ?_ NB106_112.out _; (with_reducible repeat (first | refine blk_drewN ?_ _ | refine blk_drew ?_ | refine blk_alloc ?_ _)); exact BK106.out) hg (Kd.R_ne HO_6.out BK106.out (by decide))); have n4_ := Aside0.mk (blk_grown (g := gb112) (o := .cells #[.bool ((rd_T69 (rd_L3 l0_0 x15_1) x22_2).f0), .int .i64 ((rd_T69 (rd_L3 l0_0 x15_1) x22_2).f1), .int .i64 ((rd_T69 (rd_L3 l0_0 x15_1) x22_2).f2), .int .i64 ((rd_T69 (rd_L3 l0_0 x15_1) x22_2).f3)] 69 (0, 0)) (by (with_reducible repeat (first | refine blk_drewN ?_ _ | refine blk_drew ?_ | refine blk_alloc ?_ _)); refine blk_put (cs := #[.bool ((rd_T69 (rd_L3 l0_0 x15_1) x22_2).f0), .int .i64 ((rd_T69 (rd_L3 l0_0 x15_1) x22_2).f1), .int .i64 ((rd_T69 (rd_L3 l0_0 x15_1) x22_2).f2), .int .i64 0]) ?_ 3 _ rfl; (with_reducible repeat (first | refine blk_drewN ?_ _ | refine blk_drew ?_ | refine blk_alloc ?_ _)); refine blk_put (cs := #[.bool ((rd_T69 (rd_L3 l0_0 x15_1) x22_2).f0), .int .i64 ((rd_T69 (rd_L3 l0_0 x15_1) x22_2).f1), .int .i64 0, .int .i64 0]) ?_ 2 _ rfl; (with_reducible repeat (first | refine blk_drewN ?_ _ | refine blk_drew ?_ | refine blk_alloc ?_ _)); refine blk_put (cs := #[.bool ((rd_T69 (rd_L3 l0_0 x15_1) x22_2).f0), .int .i64 0, .int .i64 0, .int .i64 0]) ?_ 1 _ rfl; (with_reducible repeat (first | refine blk_drewN ?_ _ | refine blk_drew ?_ | refine blk_alloc ?_ _)); refine blk_put (cs := #[.bool false, .int .i64 0, .int .i64 0, .int .i64 0]) ?_ 0 _ rfl; (with_reducible repeat (first | refine blk_drewN ?_ _ | refine blk_drew ?_ | refine blk_alloc ?_ _)); exact BK112.out) hg (Kd.R_ne HO_6.out BK112.out (by decide))); have n5_ := Aside0.mk (hb); have n6_ := Aside0.mk (ho); clear HO_107000; clear BK104; clear BK105; clear BK106; clear BK112; clear HB; clear HO_6; have HO_107000 := n0_; have BK104 := n1_; have BK105 := n2_; have BK106 := n3_; have BK112 := n4_; have HB := n5_; have HO115 := n6_; clear n0_ n1_ n2_ n3_ n4_ n5_ n6_; clear ho hb hg hat))
            go_roundg k2
            case measure => have := HK1.out; have := HK2.out; omega
            case rel => exact ⟨(y113), (wrap64 (x22_2 + 1)), (by first | rfl | (simp; done) | (simp [*]; done)), H', ⟨by have := HK1.out; have := HK2.out; omega⟩, ⟨by (with_reducible repeat (first | apply Kd.R_alloc | apply Kd.R_drewN | apply Kd.R_drew)); exact HO115.out⟩, ⟨by (with_reducible repeat (first | apply Kd.S_alloc | apply Kd.S_drewN | apply Kd.S_drew)); exact Kd.S_mono HO_107000.out (fun _ hk => hk.2)⟩, ⟨by (with_reducible repeat (first | refine blk_drewN ?_ _ | refine blk_drew ?_ | refine blk_alloc ?_ _)); exact BK104.out⟩, ⟨by (with_reducible repeat (first | refine blk_drewN ?_ _ | refine blk_drew ?_ | refine blk_alloc ?_ _)); exact BK105.out⟩, ⟨by (with_reducible repeat (first | refine blk_drewN ?_ _ | refine blk_drew ?_ | refine blk_alloc ?_ _)); exact BK106.out⟩, ⟨by repeat (first | (with_reducible first | exact HB.out | apply below_alloc | apply pw_below_drewN | apply below_drew1 | refine below_set ?_ GE104.out | refine below_set ?_ GE105.out | refine below_set ?_ GE106.out | refine below_set ?_ GE112.out) | exact HB.out)⟩⟩
           ·rw [if_neg c19] at H
            exact absurd H (by simp)
          ·rw [if_neg c18] at H
           exact absurd H (by simp)
         ·rw [if_neg c17] at H
          exact absurd H (by simp)
        ·rw [if_neg c16] at H
         have c16b0 : decide (x22_2 < ((rd_L3 l0_0 x15_1).length : Int)) = false := decide_eq_false c16
         clear c16
         by_cases c26 : x107000_1.length < 5864062014805
         ·rw [if_pos c26] at H
          have LMc26 := Aside0.mk c26
          clear c26
          obtain ⟨y116, hy116⟩ : ∃ y_ : List (List (S38)), y_ = (x107000_1 ++ [x6_2]) := ⟨_, rfl⟩
          replace H : (laws_expr.l0 k2 l0_0 (l0_0.length : Int) (wrap64 (x15_1 + 1)) y116 a0_1) = some (r1, r2) := by first | (rw [hy116]; with_reducible exact H) | (have H2_ := (Option.bind_some _ _).symm.trans H; rw [hy116]; with_reducible exact H2_) | (have H2_ := (Option.bind_some _ _).symm.trans H; with_reducible exact H2_) | with_reducible exact H | (rw [hy116]; exact H) | exact H
          have Ny116 := Aside0.mk hy116
          clear hy116
          have H' := Aside0.mk H
          clear H
          have hnb27 := NB106_104.out
          have hnc27 := NB104_106.out
          have hnb28 := NB106_105.out
          have hnc28 := NB105_106.out
          have hcz29_0 : wr.cell? ⟨gb106, 0, none⟩ = some (u107000) := (blk_cell BK106.out 0).trans rfl
          have hcz29_1 : wr.cell? ⟨gb106, 1, none⟩ = some (.bool a0_1) := (blk_cell BK106.out 1).trans rfl
          have hfz29_0 := blk_frozen BK106.out 0
          have hfz29_1 := blk_frozen BK106.out 1
          obtain ⟨Ao31, co31, eo31⟩ := Kd.R_slice HO_6.out
          subst eo31
          go_wp2_with (first | ((with_reducible refine gate_builtin (b := .append) (xs := #[.tmp 40, .tmp 42]) rfl ?_); at_builtin; refine Kd.S_append (Kd.slice 38 k38) (w0 := w) w.heap.size rfl (.tmp 40) (.tmp 42) 28 36 (.slice none 0 0) 24 rfl Tryz.underlying28 info36 rfl (by decide) (by omega) u107000 x107000_1 x6_2 [.slice Ao31 x6_2.length co31] (fun _ => True) (fun k_ => some k_ = (.slice Ao31 x6_2.length co31 : Value).ownBlock) rfl rfl ?aP (fun k_ hk_ => ((Kd.R_mono (ok' := fun k_ => ((fun _ => True)) k_ ∧ some k_ ≠ (u107000 : Value).ownBlock) (Kd.R_apart' (HO_6.out) (Kd.S_typed HO_107000.out) (by decide)) (fun k_ hk => ⟨trivial, hk.2⟩))).1 k_ hk_.symm) ?aF ?aO ?aB ?aS ?aL ?_; (case aP => exact Kd.M_row (Kd.R_mono (Kd.R_tight rfl (Kd.R_mono (ok' := fun k_ => ((fun _ => True)) k_ ∧ some k_ ≠ (u107000 : Value).ownBlock) (Kd.R_apart' (HO_6.out) (Kd.S_typed HO_107000.out) (by decide)) (fun k_ hk => ⟨trivial, hk.2⟩))) (fun _ h_ => h_))); (case aB => exact (by repeat (first | (with_reducible first | exact HB.out | apply below_alloc | apply pw_below_drewN | apply below_drew1 | refine below_set ?_ GE104.out | refine below_set ?_ GE105.out | refine below_set ?_ GE106.out) | exact HB.out))); (case aF => exact (fun _ _ => trivial)); (case aO => exact (by (with_reducible repeat (first | apply Kd.S_alloc | apply Kd.S_drewN | apply Kd.S_drew)); exact Kd.S_mono HO_107000.out (fun k_ hk => ⟨trivial, fun e_ => hk e_⟩))); (case aS => exact (below_size (by repeat (first | (with_reducible first | exact HB.out | apply below_alloc | apply pw_below_drewN | apply below_drew1 | refine below_set ?_ GE104.out | refine below_set ?_ GE105.out | refine below_set ?_ GE106.out) | exact HB.out)))); (case aL => have := LMc26.out; omega); intro v117 w30 ho hb hg hat; rw [← Ny116.out] at ho; have n0_ := Aside0.mk (blk_grown (g := gb104) (o := .cells #[.slice (some ad107) l0_0.length c0_0, .bool a0_1] 24 (0, 0)) (by (with_reducible repeat (first | refine blk_drewN ?_ _ | refine blk_drew ?_ | refine blk_alloc ?_ _)); exact BK104.out) hg (Kd.S_ne HO_107000.out BK104.out (by decide))); have n1_ := Aside0.mk (blk_grown (g := gb105) (o := .cells #[.slice none 0 0, .bool false] 30 (0, 0)) (by (with_reducible repeat (first | refine blk_drewN ?_ _ | refine blk_drew ?_ | refine blk_alloc ?_ _)); exact BK105.out) hg (Kd.S_ne HO_107000.out BK105.out (by decide))); have n2_ := Aside0.mk (blk_grown (g := gb106) (o := .cells #[u107000, .bool a0_1] 30 (0, 0)) (by (with_reducible repeat (first | refine blk_drewN ?_ _ | refine blk_drew ?_ | refine blk_alloc ?_ _)); exact BK106.out) hg (Kd.S_ne HO_107000.out BK106.out (by decide))); have n3_ := Aside0.mk (hb); have n4_ := Aside0.mk (ho); clear BK104; clear BK105; clear BK106; clear HB; clear HO_107000; clear HO_6; have BK104 := n0_; have BK105 := n1_; have BK106 := n2_; have HB := n3_; have HO118 := n4_; clear n0_ n1_ n2_ n3_ n4_; clear ho hb hg hat; obtain ⟨Ao32, co32, eo32⟩ := Kd.S_slice HO118.out; subst eo32; have hcz33_0 : w30.cell? ⟨gb106, 0, none⟩ = some (u107000) := (blk_cell BK106.out 0).trans rfl; have hcz33_1 : w30.cell? ⟨gb106, 1, none⟩ = some (.bool a0_1) := (blk_cell BK106.out 1).trans rfl; have hfz33_0 := blk_frozen BK106.out 0; have hfz33_1 := blk_frozen BK106.out 1))
          go_roundg k2
          case measure => have := HK1.out; have := HK2.out; omega
          case rel => exact ⟨(wrap64 (x15_1 + 1)), (y116), (.slice Ao32 y116.length co32), (by first | rfl | (simp; done) | (simp [*]; done)), H', ⟨by have := HK1.out; have := HK2.out; omega⟩, ⟨by (with_reducible repeat (first | apply Kd.S_alloc | apply Kd.S_drewN | apply Kd.S_drew)); exact Kd.S_mono (Kd.S_far (p := ⟨gb106, 0, none⟩) (Kd.S_types HO118.out BK106.out (by decide)) (fun _ hk => hk.2) (.slice Ao32 y116.length co32)) (fun _ hk => trivial)⟩, ⟨by (with_reducible repeat (first | refine blk_drewN ?_ _ | refine blk_drew ?_ | refine blk_alloc ?_ _)); refine blk_far ?_ NB104_106.out _; (with_reducible repeat (first | refine blk_drewN ?_ _ | refine blk_drew ?_ | refine blk_alloc ?_ _)); exact BK104.out⟩, ⟨by (with_reducible repeat (first | refine blk_drewN ?_ _ | refine blk_drew ?_ | refine blk_alloc ?_ _)); refine blk_far ?_ NB105_106.out _; (with_reducible repeat (first | refine blk_drewN ?_ _ | refine blk_drew ?_ | refine blk_alloc ?_ _)); exact BK105.out⟩, ⟨by (with_reducible repeat (first | refine blk_drewN ?_ _ | refine blk_drew ?_ | refine blk_alloc ?_ _)); refine blk_put (cs := #[u107000, .bool a0_1]) ?_ 0 _ rfl; (with_reducible repeat (first | refine blk_drewN ?_ _ | refine blk_drew ?_ | refine blk_alloc ?_ _)); exact BK106.out⟩, ⟨by repeat (first | (with_reducible first | exact HB.out | apply below_alloc | apply pw_below_drewN | apply below_drew1 | refine below_set ?_ GE104.out | refine below_set ?_ GE105.out | refine below_set ?_ GE106.out) | exact HB.out)⟩⟩
         ·rw [if_neg c26] at H
          exact absurd H (by simp)
     ·rw [if_neg c13] at H
      exact absurd H (by simp)
    ·rw [if_neg c12] at H
     exact absurd H (by simp)
   ·rw [if_neg c11] at H
    have c11b0 : decide (x15_1 < (l0_0.length : Int)) = false := decide_eq_false c11
    clear c11
    simp only [Option.some.injEq, Prod.mk.injEq] at H
    obtain ⟨rfl, rfl⟩ := H
    have hnb34 := NB106_104.out
    have hnc34 := NB104_106.out
    have hnb35 := NB106_105.out
    have hnc35 := NB105_106.out
    have hcz36_0 : wr.cell? ⟨gb106, 0, none⟩ = some (u107000) := (blk_cell BK106.out 0).trans rfl
    have hcz36_1 : wr.cell? ⟨gb106, 1, none⟩ = some (.bool a0_1) := (blk_cell BK106.out 1).trans rfl
    have hfz36_0 := blk_frozen BK106.out 0
    have hfz36_1 := blk_frozen BK106.out 1
    obtain ⟨Ao37, co37, eo37⟩ := Kd.S_slice HO_107000.out
    subst eo37
    have hnb38 := NB105_104.out
    have hnc38 := NB104_105.out
    have hcz39_0 : wr.cell? ⟨gb105, 0, none⟩ = some (.slice none 0 0) := (blk_cell BK105.out 0).trans rfl
    have hcz39_1 : wr.cell? ⟨gb105, 1, none⟩ = some (.bool false) := (blk_cell BK105.out 1).trans rfl
    have hfz39_0 := blk_frozen BK105.out 0
    have hfz39_1 := blk_frozen BK105.out 1
    go_wp2
    refine bodyPost_ret (results_cell_row rfl _ _ gb105 30 #[.slice Ao37 x107000_1.length co37, .bool a0_1] (0, 0) _ rfl (by (with_reducible repeat (first | refine blk_drewN ?_ _ | refine blk_drew ?_ | refine blk_alloc ?_ _)); refine blk_put (cs := #[.slice Ao37 x107000_1.length co37, .bool false]) ?_ 1 _ rfl; (with_reducible repeat (first | refine blk_drewN ?_ _ | refine blk_drew ?_ | refine blk_alloc ?_ _)); refine blk_put (cs := #[.slice none 0 0, .bool false]) ?_ 0 _ rfl; (with_reducible repeat (first | refine blk_drewN ?_ _ | refine blk_drew ?_ | refine blk_alloc ?_ _)); exact BK105.out) Tryz.underlying30 rfl (by kernel_rfl)) rfl ?_
    exact ⟨_, by first | rfl | (simp [errW_none, errW_some] <;> rfl) | (simp [*, errW_none, errW_some] <;> rfl), by (with_reducible repeat (first | apply Kd.S_alloc | apply Kd.S_drewN | apply Kd.S_drew)); exact Kd.S_mono (Kd.S_far (p := ⟨gb105, 1, none⟩) (Kd.S_far (p := ⟨gb105, 0, none⟩) (Kd.S_types HO_107000.out BK105.out (by decide)) (fun _ hk => hk.2) (.slice Ao37 x107000_1.length co37)) (fun _ hk => hk.2) (.bool a0_1)) (fun _ hk => trivial), by repeat (first | (with_reducible first | exact HB.out | apply below_alloc | apply pw_below_drewN | apply below_drew1 | refine below_set ?_ GE104.out | refine below_set ?_ GE105.out | refine below_set ?_ GE106.out) | exact HB.out)⟩
def laws_zzFits2.l0 : Nat → List (List (S69)) → Int → Int → Option (Bool)
 | 0, _, _, _ => none
 | k + 1, x8, x9, x10 => if x10 < x9 then (if 0 ≤ x10 then (if x10 < (x8.length : Int) then (if ((rd_L3 x8 x10).length : Int) > 2147483647 then (some false) else (laws_zzFits2.l0 k x8 x9 (wrap64 (x10 + 1)))) else (none)) else (none)) else (some true)
def laws_zzFits2.f (k : Nat) (l0 : List (List (S69))) : Option (Bool) := if (l0.length : Int) > 2147483647 then (some false) else (laws_zzFits2.l0 k l0 (l0.length : Int) 0)
set_option maxHeartbeats 8000000 in
set_option maxRecDepth 100000 in
theorem laws_zzFits2.calls (k : Nat) (A0 : Option Addr) (c0 : Nat) (l0 : List (List (S69))) (r : Bool) (w : World) (hr0 : Kd.C (Kd.slice 69 k69) w A0 l0.length l0) (hc0 : l0.length ≤ c0) (h : laws_zzFits2.f k l0 = some r) :
  Calls Tryz.prog 30 #[.slice A0 l0.length c0] w fun e w' => e = .returned (.bool r) ∧ Drawn0 w w' := by
 have HR0 := Aside0.mk hr0
 have HC0 := Aside0.mk hc0
 clear hr0 hc0
 have H : (if (l0.length : Int) > 2147483647 then (some false) else (laws_zzFits2.l0 k l0 (l0.length : Int) 0)) = some r := h
 clear h
 by_cases c2 : (l0.length : Int) > 2147483647
 ·rw [if_pos c2] at H
  have c2b0 : decide (2147483647 < (l0.length : Int)) = true := decide_eq_true c2
  have c2b1 : decide (2147483647 < l0.length) = true := decide_eq_true (by omega)
  clear c2
  obtain rfl := Option.some.inj H
  go_enter Tryz.func30, Tryz.ntmps30
  go_wp2
  go_ret
  exact ⟨by first | rfl | (simp; done) | (simp [*]; done), by repeat (first | exact Drawn0.refl _ | apply Drawn0.step)⟩
 ·rw [if_neg c2] at H
  have c2b0 : decide (2147483647 < (l0.length : Int)) = false := decide_eq_false c2
  have c2b1 : decide (2147483647 < l0.length) = false := decide_eq_false (by omega)
  clear c2
  have H' := Aside0.mk H
  clear H
  go_enter Tryz.func30, Tryz.ntmps30
  go_wp2
  go_loopg [10] k (fun kq v10 w' => ∃ (x10_1 : Int), v10 = .int .i64 x10_1 ∧ Aside0 (laws_zzFits2.l0 kq l0 (l0.length : Int) x10_1 = some r) ∧ Aside0 (kq ≤ k) ∧ Drawn0 w w')
  case atStart => exact ⟨(0), (by first | rfl | (simp; done) | (simp [*]; done)), H', ⟨Nat.le_refl _⟩, by repeat (first | exact Drawn0.refl _ | apply Drawn0.step)⟩
  case round =>
   clear H'
   obtain ⟨x10_1, rfl, HA, HK1, ⟨m1, rfl⟩⟩ := hrel
   cases gk with
   | zero => exact absurd HA.out (by simp [laws_zzFits2.l0])
   | succ k1 =>
    have H := HA.out
    clear HA
    simp only [laws_zzFits2.l0] at H
    by_cases c3 : x10_1 < (l0.length : Int)
    ·rw [if_pos c3] at H
     have c3b0 : decide (x10_1 < (l0.length : Int)) = true := decide_eq_true c3
     clear c3
     by_cases c4 : 0 ≤ x10_1
     ·rw [if_pos c4] at H
      have c4b0 : decide (0 ≤ x10_1) = true := decide_eq_true c4
      clear c4
      by_cases c5 : x10_1 < (l0.length : Int)
      ·rw [if_pos c5] at H
       have c5b0 : decide (x10_1 < (l0.length : Int)) = true := decide_eq_true c5
       clear c5
       by_cases c6 : ((rd_L3 l0 x10_1).length : Int) > 2147483647
       ·rw [if_pos c6] at H
        have c6b0 : decide (2147483647 < ((rd_L3 l0 x10_1).length : Int)) = true := decide_eq_true c6
        have c6b1 : decide (2147483647 < (rd_L3 l0 x10_1).length) = true := decide_eq_true (by omega)
        clear c6
        obtain rfl := Option.some.inj H
        have p101 : 0 ≤ (x10_1 : Int) := of_decide_eq_true (by first | (with_reducible assumption) | assumption)
        have q101 : x10_1 < (l0.length : Int) := of_decide_eq_true (by first | (with_reducible assumption) | assumption)
        obtain ⟨ad101, A101_0, c101_0, e101, hx101_0, hl101_0, hi101_0⟩ := at_L3 HR0.out x10_1 p101 q101
        cases e101
        have HR101_0 := Aside0.mk hi101_0
        have HC101_0 := Aside0.mk hl101_0
        clear hi101_0 hl101_0
        replace p101 := eq_true p101
        replace q101 := eq_true q101
        go_wp2
        go_ret
        exact ⟨by first | rfl | (simp; done) | (simp [*]; done), by repeat (first | exact Drawn0.refl _ | apply Drawn0.step)⟩
       ·rw [if_neg c6] at H
        have c6b0 : decide (2147483647 < ((rd_L3 l0 x10_1).length : Int)) = false := decide_eq_false c6
        have c6b1 : decide (2147483647 < (rd_L3 l0 x10_1).length) = false := decide_eq_false (by omega)
        clear c6
        have H' := Aside0.mk H
        clear H
        have p101 : 0 ≤ (x10_1 : Int) := of_decide_eq_true (by first | (with_reducible assumption) | assumption)
        have q101 : x10_1 < (l0.length : Int) := of_decide_eq_true (by first | (with_reducible assumption) | assumption)
        obtain ⟨ad101, A101_0, c101_0, e101, hx101_0, hl101_0, hi101_0⟩ := at_L3 HR0.out x10_1 p101 q101
        cases e101
        have HR101_0 := Aside0.mk hi101_0
        have HC101_0 := Aside0.mk hl101_0
        clear hi101_0 hl101_0
        replace p101 := eq_true p101
        replace q101 := eq_true q101
        go_wp2
        go_roundg k1
        case measure => have := HK1.out; omega
        case rel => exact ⟨(wrap64 (x10_1 + 1)), (by first | rfl | (simp; done) | (simp [*]; done)), H', ⟨by have := HK1.out; omega⟩, by repeat (first | exact Drawn0.refl _ | apply Drawn0.step)⟩
      ·rw [if_neg c5] at H
       exact absurd H (by simp)
     ·rw [if_neg c4] at H
      exact absurd H (by simp)
    ·rw [if_neg c3] at H
     have c3b0 : decide (x10_1 < (l0.length : Int)) = false := decide_eq_false c3
     clear c3
     obtain rfl := Option.some.inj H
     go_wp2
     go_ret
     exact ⟨by first | rfl | (simp; done) | (simp [*]; done), by repeat (first | exact Drawn0.refl _ | apply Drawn0.step)⟩
def laws_zzFits1.f (k : Nat) (l0_0 : List (List (S69))) (a0_1 : Bool) : Option (Bool) := (laws_zzFits2.f k l0_0).bind fun t103 => (if t103 = true then (some true) else (some false))
set_option maxHeartbeats 8000000 in
set_option maxRecDepth 100000 in
theorem laws_zzFits1.calls (k : Nat) (A0_0 : Option Addr) (c0_0 : Nat) (l0_0 : List (List (S69))) (a0_1 : Bool) (r : Bool) (w : World) (hr0_0 : Kd.C (Kd.slice 69 k69) w A0_0 l0_0.length l0_0) (hc0_0 : l0_0.length ≤ c0_0) (h : laws_zzFits1.f k l0_0 a0_1 = some r) :
  Calls Tryz.prog 11 #[.agg #[.slice A0_0 l0_0.length c0_0, .bool a0_1]] w fun e w' => e = .returned (.bool r) ∧ Below w.heap.size w w' := by
 have hu24 := Tryz.underlying24
 have HR0_0 := Aside0.mk hr0_0
 have HC0_0 := Aside0.mk hc0_0
 clear hr0_0 hc0_0
 have HB := Aside0.mk (Below.refl w.heap.size w)
 have H : ((laws_zzFits2.f k l0_0).bind fun t103 => (if t103 = true then (some true) else (some false))) = some r := h
 clear h
 replace H := Option.bind_eq_some_iff.mp H
 obtain ⟨t103, A20, H⟩ := H
 replace H : (if t103 = true then (some true) else (some false)) = some r := H
 have A2 := Aside0.mk A20
 clear A20
 by_cases c3 : t103 = true
 ·subst c3
  have H1 : (some true) = some r := by rw [if_pos rfl] at H; exact H
  clear H
  have H := H1
  clear H1
  obtain rfl := Option.some.inj H
  go_enter Tryz.func11, Tryz.ntmps11
  go_wp2_with (first | ((with_reducible refine gate_dst (N := 1) rfl ?_); refine box_event ?hg (N := 1) ?hd (cs := #[.slice A0_0 l0_0.length c0_0, .bool a0_1]) (t := 24) ?hr ?_; (case hd => rfl); (case hg => rfl); (case hr => first | (go_simp; done) | (go_simp; rfl)); intro gb102 hg w4 hbox hb; have n0_ := Aside0.mk (below_step (by repeat (first | (with_reducible first | exact HB.out | apply below_alloc | apply pw_below_drewN | apply below_drew1) | exact HB.out)) hb); have n1_ := Aside0.mk (hbox); have n2_ := Aside0.mk ((by rw [hg]; exact (below_size (by repeat (first | (with_reducible first | exact HB.out | apply below_alloc | apply pw_below_drewN | apply below_drew1) | exact HB.out))) : w.heap.size ≤ gb102)); have n3_ := Aside0.mk ((by rw [hg]; exact (below_size (by repeat (first | (with_reducible first | exact HB.out | apply below_alloc | apply pw_below_drewN | apply below_drew1) | exact HB.out))) : w.heap.size ≤ gb102)); clear HB; have HB := n0_; have BK102 := n1_; have GW102 := n2_; have GE102 := n3_; clear n0_ n1_ n2_ n3_; clear hb hbox hg; have hcz5_0 : w4.cell? ⟨gb102, 0, none⟩ = some (.slice A0_0 l0_0.length c0_0) := (blk_cell BK102.out 0).trans rfl; have hcz5_1 : w4.cell? ⟨gb102, 1, none⟩ = some (.bool a0_1) := (blk_cell BK102.out 1).trans rfl; have hfz5_0 := blk_frozen BK102.out 0; have hfz5_1 := blk_frozen BK102.out 1) | ((with_reducible refine gate_callee (f := 30) rfl ?_); refine goesL_ (some 5) rfl rfl Tryz.func30 (by kernel_rfl) rfl #[.slice A0_0 l0_0.length c0_0] rfl (by (try simp only [List.map_toArray, List.map_cons, List.map_nil]); first | done | rfl | (simp only [List.length_drop, List.length_take]; rfl)) ?_; (with_reducible refine (laws_zzFits2.calls k _ _ l0_0 true _ ?side1 ?side2 A2.out).mono ?_); (case side1 => repeat (first | exact (Kd.C_below HR0_0.out HB.out) | (with_reducible refine Kd.C_alloc ?_ _) | (with_reducible refine Kd.C_drewN ?_ _) | (with_reducible refine Kd.C_drew ?_))); (case side2 => exact HC0_0.out); rintro e w' ⟨rfl, ⟨nd, rfl⟩⟩; refine ⟨_, rfl, ?_⟩))
  go_ret
  exact ⟨by first | rfl | (simp [errW_none, errW_some] <;> rfl) | (simp [*, errW_none, errW_some] <;> rfl), by repeat (first | (with_reducible first | exact HB.out | apply below_alloc | apply pw_below_drewN | apply below_drew1 | refine below_set ?_ GE102.out) | exact HB.out)⟩
 ·replace c3 := Bool.eq_false_iff.mpr c3
  subst c3
  have H1 : (some false) = some r := by rw [if_neg (show ¬ (false = true) by decide)] at H; exact H
  clear H
  have H := H1
  clear H1
  obtain rfl := Option.some.inj H
  go_enter Tryz.func11, Tryz.ntmps11
  go_wp2_with (first | ((with_reducible refine gate_dst (N := 1) rfl ?_); refine box_event ?hg (N := 1) ?hd (cs := #[.slice A0_0 l0_0.length c0_0, .bool a0_1]) (t := 24) ?hr ?_; (case hd => rfl); (case hg => rfl); (case hr => first | (go_simp; done) | (go_simp; rfl)); intro gb102 hg w6 hbox hb; have n0_ := Aside0.mk (below_step (by repeat (first | (with_reducible first | exact HB.out | apply below_alloc | apply pw_below_drewN | apply below_drew1) | exact HB.out)) hb); have n1_ := Aside0.mk (hbox); have n2_ := Aside0.mk ((by rw [hg]; exact (below_size (by repeat (first | (with_reducible first | exact HB.out | apply below_alloc | apply pw_below_drewN | apply below_drew1) | exact HB.out))) : w.heap.size ≤ gb102)); have n3_ := Aside0.mk ((by rw [hg]; exact (below_size (by repeat (first | (with_reducible first | exact HB.out | apply below_alloc | apply pw_below_drewN | apply below_drew1) | exact HB.out))) : w.heap.size ≤ gb102)); clear HB; have HB := n0_; have BK102 := n1_; have GW102 := n2_; have GE102 := n3_; clear n0_ n1_ n2_ n3_; clear hb hbox hg; have hcz7_0 : w6.cell? ⟨gb102, 0, none⟩ = some (.slice A0_0 l0_0.length c0_0) := (blk_cell BK102.out 0).trans rfl; have hcz7_1 : w6.cell? ⟨gb102, 1, none⟩ = some (.bool a0_1) := (blk_cell BK102.out 1).trans rfl; have hfz7_0 := blk_frozen BK102.out 0; have hfz7_1 := blk_frozen BK102.out 1) | ((with_reducible refine gate_callee (f := 30) rfl ?_); refine goesL_ (some 5) rfl rfl Tryz.func30 (by kernel_rfl) rfl #[.slice A0_0 l0_0.length c0_0] rfl (by (try simp only [List.map_toArray, List.map_cons, List.map_nil]); first | done | rfl | (simp only [List.length_drop, List.length_take]; rfl)) ?_; (with_reducible refine (laws_zzFits2.calls k _ _ l0_0 false _ ?side1 ?side2 A2.out).mono ?_); (case side1 => repeat (first | exact (Kd.C_below HR0_0.out HB.out) | (with_reducible refine Kd.C_alloc ?_ _) | (with_reducible refine Kd.C_drewN ?_ _) | (with_reducible refine Kd.C_drew ?_))); (case side2 => exact HC0_0.out); rintro e w' ⟨rfl, ⟨nd, rfl⟩⟩; refine ⟨_, rfl, ?_⟩))
  go_ret
  exact ⟨by first | rfl | (simp [errW_none, errW_some] <;> rfl) | (simp [*, errW_none, errW_some] <;> rfl), by repeat (first | (with_reducible first | exact HB.out | apply below_alloc | apply pw_below_drewN | apply below_drew1 | refine below_set ?_ GE102.out) | exact HB.out)⟩
def laws_zzFits3.l0 : Nat → List (S24) → Int → Int → Option (Bool)
 | 0, _, _, _ => none
 | k + 1, x8, x9, x10 => if x10 < x9 then (if 0 ≤ x10 then (if x10 < (x8.length : Int) then ((laws_zzFits1.f k ((rd_T24 x8 x10).f0) ((rd_T24 x8 x10).f1)).bind fun t423 => (if t423 = true then (laws_zzFits3.l0 k x8 x9 (wrap64 (x10 + 1))) else (some false))) else (none)) else (none)) else (some true)
def laws_zzFits3.f (k : Nat) (l0 : List (S24)) : Option (Bool) := if (l0.length : Int) > 2147483647 then (some false) else (laws_zzFits3.l0 k l0 (l0.length : Int) 0)
set_option maxHeartbeats 8000000 in
set_option maxRecDepth 100000 in
theorem laws_zzFits3.calls (k : Nat) (A0 : Option Addr) (c0 : Nat) (l0 : List (S24)) (r : Bool) (w : World) (hr0 : Kd.C k24 w A0 l0.length l0) (hc0 : l0.length ≤ c0) (h : laws_zzFits3.f k l0 = some r) :
  Calls Tryz.prog 27 #[.slice A0 l0.length c0] w fun e w' => e = .returned (.bool r) ∧ Below w.heap.size w w' := by
 have hu24 := Tryz.underlying24
 have HR0 := Aside0.mk hr0
 have HC0 := Aside0.mk hc0
 clear hr0 hc0
 have HB := Aside0.mk (Below.refl w.heap.size w)
 have H : (if (l0.length : Int) > 2147483647 then (some false) else (laws_zzFits3.l0 k l0 (l0.length : Int) 0)) = some r := h
 clear h
 by_cases c2 : (l0.length : Int) > 2147483647
 ·rw [if_pos c2] at H
  have c2b0 : decide (2147483647 < (l0.length : Int)) = true := decide_eq_true c2
  have c2b1 : decide (2147483647 < l0.length) = true := decide_eq_true (by omega)
  clear c2
  obtain rfl := Option.some.inj H
  go_enter Tryz.func27, Tryz.ntmps27
  go_wp2
  go_ret
  exact ⟨by first | rfl | (simp [errW_none, errW_some] <;> rfl) | (simp [*, errW_none, errW_some] <;> rfl), by repeat (first | (with_reducible first | exact HB.out | apply below_alloc | apply pw_below_drewN | apply below_drew1) | exact HB.out)⟩
 ·rw [if_neg c2] at H
  have c2b0 : decide (2147483647 < (l0.length : Int)) = false := decide_eq_false c2
  have c2b1 : decide (2147483647 < l0.length) = false := decide_eq_false (by omega)
  clear c2
  have H' := Aside0.mk H
  clear H
  go_enter Tryz.func27, Tryz.ntmps27
  go_wp2
  go_loopg [10] k (fun kq v10 w' => ∃ (x10_1 : Int), v10 = .int .i64 x10_1 ∧ Aside0 (laws_zzFits3.l0 kq l0 (l0.length : Int) x10_1 = some r) ∧ Aside0 (kq ≤ k) ∧ Aside0 (Below w.heap.size w w'))
  case atStart => exact ⟨(0), (by first | rfl | (simp; done) | (simp [*]; done)), H', ⟨Nat.le_refl _⟩, ⟨by repeat (first | (with_reducible first | exact HB.out | apply below_alloc | apply pw_below_drewN | apply below_drew1) | exact HB.out)⟩⟩
  case round =>
   clear H'
   obtain ⟨x10_1, rfl, HA, HK1, HB⟩ := hrel
   cases gk with
   | zero => exact absurd HA.out (by simp [laws_zzFits3.l0])
   | succ k1 =>
    have H := HA.out
    clear HA
    simp only [laws_zzFits3.l0] at H
    by_cases c3 : x10_1 < (l0.length : Int)
    ·rw [if_pos c3] at H
     have c3b0 : decide (x10_1 < (l0.length : Int)) = true := decide_eq_true c3
     clear c3
     by_cases c4 : 0 ≤ x10_1
     ·rw [if_pos c4] at H
      have c4b0 : decide (0 ≤ x10_1) = true := decide_eq_true c4
      clear c4
      by_cases c5 : x10_1 < (l0.length : Int)
      ·rw [if_pos c5] at H
       have c5b0 : decide (x10_1 < (l0.length : Int)) = true := decide_eq_true c5
       clear c5
       replace H := Option.bind_eq_some_iff.mp H
       obtain ⟨t423, A60, H⟩ := H
       replace H : (if t423 = true then (laws_zzFits3.l0 k1 l0 (l0.length : Int) (wrap64 (x10_1 + 1))) else (some false)) = some r := H
       have A6 := Aside0.mk A60
       clear A60
       by_cases c7 : t423 = true
       ·subst c7
        have H1 : (laws_zzFits3.l0 k1 l0 (l0.length : Int) (wrap64 (x10_1 + 1))) = some r := by rw [if_pos rfl] at H; exact H
        clear H
        have H := H1
        clear H1
        have H' := Aside0.mk H
        clear H
        have p421 : 0 ≤ (x10_1 : Int) := of_decide_eq_true (by first | (with_reducible assumption) | assumption)
        have q421 : x10_1 < (l0.length : Int) := of_decide_eq_true (by first | (with_reducible assumption) | assumption)
        obtain ⟨ad421, A421_0, c421_0, e421, hx421_0, hx421_1, hl421_0, hi421_0⟩ := at_T24 HR0.out x10_1 p421 q421
        cases e421
        replace hx421_0 := (HB.out.cell (World.block_lt_of_cell? w _ hx421_0)).trans hx421_0
        replace hx421_1 := (HB.out.cell (World.block_lt_of_cell? w _ hx421_1)).trans hx421_1
        have HR421_0 := Aside0.mk hi421_0
        have HC421_0 := Aside0.mk hl421_0
        clear hi421_0 hl421_0
        replace p421 := eq_true p421
        replace q421 := eq_true q421
        go_wp2_with (first | ((with_reducible refine gate_dst (N := 4) rfl ?_); refine box_event ?hg (N := 4) ?hd (cs := #[.slice none 0 0, .bool false]) (t := 24) ?hr ?_; (case hd => rfl); (case hg => rfl); (case hr => first | (go_simp; done) | (go_simp; rfl)); intro gb422 hg w8 hbox hb; have n0_ := Aside0.mk (below_step (by repeat (first | (with_reducible first | exact HB.out | apply below_alloc | apply pw_below_drewN | apply below_drew1) | exact HB.out)) hb); have n1_ := Aside0.mk (hbox); have n2_ := Aside0.mk ((by rw [hg]; exact (below_size (by repeat (first | (with_reducible first | exact HB.out | apply below_alloc | apply pw_below_drewN | apply below_drew1) | exact HB.out))) : w.heap.size ≤ gb422)); have n3_ := Aside0.mk ((by rw [hg]; exact (below_size (by repeat (first | (with_reducible first | exact HB.out | apply below_alloc | apply pw_below_drewN | apply below_drew1) | exact HB.out))) : w.heap.size ≤ gb422)); clear HB; have HB := n0_; have BK422 := n1_; have GW422 := n2_; have GE422 := n3_; clear n0_ n1_ n2_ n3_; clear hb hbox hg; have hcz9_0 : w8.cell? ⟨gb422, 0, none⟩ = some (.slice none 0 0) := (blk_cell BK422.out 0).trans rfl; have hcz9_1 : w8.cell? ⟨gb422, 1, none⟩ = some (.bool false) := (blk_cell BK422.out 1).trans rfl; have hfz9_0 := blk_frozen BK422.out 0; have hfz9_1 := blk_frozen BK422.out 1) | ((with_reducible refine gate_callee (f := 11) rfl ?_); refine goesL_ (some 15) rfl rfl Tryz.func11 (by kernel_rfl) rfl #[.agg #[.slice A421_0 ((rd_T24 l0 x10_1).f0).length c421_0, .bool ((rd_T24 l0 x10_1).f1)]] rfl (by (try simp only [List.map_toArray, List.map_cons, List.map_nil]); first | done | rfl | (simp only [List.length_drop, List.length_take]; rfl)) ?_; (with_reducible refine (laws_zzFits1.calls k1 _ _ ((rd_T24 l0 x10_1).f0) ((rd_T24 l0 x10_1).f1) true _ ?side1 ?side2 A6.out).mono ?_); (case side1 => exact Kd.C_below HR421_0.out (by repeat (first | (with_reducible first | exact HB.out | apply below_alloc | apply pw_below_drewN | apply below_drew1 | refine below_set ?_ GE422.out) | exact HB.out))); (case side2 => exact HC421_0.out); rintro e w10 ⟨rfl, hb⟩; refine ⟨_, rfl, ?_⟩; have n0_ := Aside0.mk (blk_below (g := gb422) (o := .cells #[.slice A421_0 ((rd_T24 l0 x10_1).f0).length c421_0, .bool ((rd_T24 l0 x10_1).f1)] 24 (0, 0)) (by (with_reducible repeat (first | refine blk_drewN ?_ _ | refine blk_drew ?_ | refine blk_alloc ?_ _)); refine blk_put (cs := #[.slice A421_0 ((rd_T24 l0 x10_1).f0).length c421_0, .bool false]) ?_ 1 _ rfl; (with_reducible repeat (first | refine blk_drewN ?_ _ | refine blk_drew ?_ | refine blk_alloc ?_ _)); refine blk_put (cs := #[.slice none 0 0, .bool false]) ?_ 0 _ rfl; (with_reducible repeat (first | refine blk_drewN ?_ _ | refine blk_drew ?_ | refine blk_alloc ?_ _)); exact BK422.out) hb); have n1_ := Aside0.mk (below_step (by repeat (first | (with_reducible first | exact HB.out | apply below_alloc | apply pw_below_drewN | apply below_drew1 | refine below_set ?_ GE422.out) | exact HB.out)) hb); clear BK422; clear HB; have BK422 := n0_; have HB := n1_; clear n0_ n1_; (try clear hb); (try clear hb2); (try clear hk); (try clear hi)))
        go_roundg k1
        case measure => have := HK1.out; omega
        case rel => exact ⟨(wrap64 (x10_1 + 1)), (by first | rfl | (simp; done) | (simp [*]; done)), H', ⟨by have := HK1.out; omega⟩, ⟨by repeat (first | (with_reducible first | exact HB.out | apply below_alloc | apply pw_below_drewN | apply below_drew1 | refine below_set ?_ GE422.out) | exact HB.out)⟩⟩
       ·replace c7 := Bool.eq_false_iff.mpr c7
        subst c7
        have H1 : (some false) = some r := by rw [if_neg (show ¬ (false = true) by decide)] at H; exact H
        clear H
        have H := H1
        clear H1
        obtain rfl := Option.some.inj H
        have p421 : 0 ≤ (x10_1 : Int) := of_decide_eq_true (by first | (with_reducible assumption) | assumption)
        have q421 : x10_1 < (l0.length : Int) := of_decide_eq_true (by first | (with_reducible assumption) | assumption)
        obtain ⟨ad421, A421_0, c421_0, e421, hx421_0, hx421_1, hl421_0, hi421_0⟩ := at_T24 HR0.out x10_1 p421 q421
        cases e421
        replace hx421_0 := (HB.out.cell (World.block_lt_of_cell? w _ hx421_0)).trans hx421_0
        replace hx421_1 := (HB.out.cell (World.block_lt_of_cell? w _ hx421_1)).trans hx421_1
        have HR421_0 := Aside0.mk hi421_0
        have HC421_0 := Aside0.mk hl421_0
        clear hi421_0 hl421_0
        replace p421 := eq_true p421
        replace q421 := eq_true q421
        go_wp2_with (first | ((with_reducible refine gate_dst (N := 4) rfl ?_); refine box_event ?hg (N := 4) ?hd (cs := #[.slice none 0 0, .bool false]) (t := 24) ?hr ?_; (case hd => rfl); (case hg => rfl); (case hr => first | (go_simp; done) | (go_simp; rfl)); intro gb422 hg w11 hbox hb; have n0_ := Aside0.mk (below_step (by repeat (first | (with_reducible first | exact HB.out | apply below_alloc | apply pw_below_drewN | apply below_drew1) | exact HB.out)) hb); have n1_ := Aside0.mk (hbox); have n2_ := Aside0.mk ((by rw [hg]; exact (below_size (by repeat (first | (with_reducible first | exact HB.out | apply below_alloc | apply pw_below_drewN | apply below_drew1) | exact HB.out))) : w.heap.size ≤ gb422)); have n3_ := Aside0.mk ((by rw [hg]; exact (below_size (by repeat (first | (with_reducible first | exact HB.out | apply below_alloc | apply pw_below_drewN | apply below_drew1) | exact HB.out))) : w.heap.size ≤ gb422)); clear HB; have HB := n0_; have BK422 := n1_; have GW422 := n2_; have GE422 := n3_; clear n0_ n1_ n2_ n3_; clear hb hbox hg; have hcz12_0 : w11.cell? ⟨gb422, 0, none⟩ = some (.slice none 0 0) := (blk_cell BK422.out 0).trans rfl; have hcz12_1 : w11.cell? ⟨gb422, 1, none⟩ = some (.bool false) := (blk_cell BK422.out 1).trans rfl; have hfz12_0 := blk_frozen BK422.out 0; have hfz12_1 := blk_frozen BK422.out 1) | ((with_reducible refine gate_callee (f := 11) rfl ?_); refine goesL_ (some 15) rfl rfl Tryz.func11 (by kernel_rfl) rfl #[.agg #[.slice A421_0 ((rd_T24 l0 x10_1).f0).length c421_0, .bool ((rd_T24 l0 x10_1).f1)]] rfl (by (try simp only [List.map_toArray, List.map_cons, List.map_nil]); first | done | rfl | (simp only [List.length_drop, List.length_take]; rfl)) ?_; (with_reducible refine (laws_zzFits1.calls k1 _ _ ((rd_T24 l0 x10_1).f0) ((rd_T24 l0 x10_1).f1) false _ ?side1 ?side2 A6.out).mono ?_); (case side1 => exact Kd.C_below HR421_0.out (by repeat (first | (with_reducible first | exact HB.out | apply below_alloc | apply pw_below_drewN | apply below_drew1 | refine below_set ?_ GE422.out) | exact HB.out))); (case side2 => exact HC421_0.out); rintro e w13 ⟨rfl, hb⟩; refine ⟨_, rfl, ?_⟩; have n0_ := Aside0.mk (blk_below (g := gb422) (o := .cells #[.slice A421_0 ((rd_T24 l0 x10_1).f0).length c421_0, .bool ((rd_T24 l0 x10_1).f1)] 24 (0, 0)) (by (with_reducible repeat (first | refine blk_drewN ?_ _ | refine blk_drew ?_ | refine blk_alloc ?_ _)); refine blk_put (cs := #[.slice A421_0 ((rd_T24 l0 x10_1).f0).length c421_0, .bool false]) ?_ 1 _ rfl; (with_reducible repeat (first | refine blk_drewN ?_ _ | refine blk_drew ?_ | refine blk_alloc ?_ _)); refine blk_put (cs := #[.slice none 0 0, .bool false]) ?_ 0 _ rfl; (with_reducible repeat (first | refine blk_drewN ?_ _ | refine blk_drew ?_ | refine blk_alloc ?_ _)); exact BK422.out) hb); have n1_ := Aside0.mk (below_step (by repeat (first | (with_reducible first | exact HB.out | apply below_alloc | apply pw_below_drewN | apply below_drew1 | refine below_set ?_ GE422.out) | exact HB.out)) hb); clear BK422; clear HB; have BK422 := n0_; have HB := n1_; clear n0_ n1_; (try clear hb); (try clear hb2); (try clear hk); (try clear hi)))
        go_ret
        exact ⟨by first | rfl | (simp [errW_none, errW_some] <;> rfl) | (simp [*, errW_none, errW_some] <;> rfl), by repeat (first | (with_reducible first | exact HB.out | apply below_alloc | apply pw_below_drewN | apply below_drew1 | refine below_set ?_ GE422.out) | exact HB.out)⟩
      ·rw [if_neg c5] at H
       exact absurd H (by simp)
     ·rw [if_neg c4] at H
      exact absurd H (by simp)
    ·rw [if_neg c3] at H
     have c3b0 : decide (x10_1 < (l0.length : Int)) = false := decide_eq_false c3
     clear c3
     obtain rfl := Option.some.inj H
     go_wp2
     go_ret
     exact ⟨by first | rfl | (simp [errW_none, errW_some] <;> rfl) | (simp [*, errW_none, errW_some] <;> rfl), by repeat (first | (with_reducible first | exact HB.out | apply below_alloc | apply pw_below_drewN | apply below_drew1) | exact HB.out)⟩
def laws_moment.f (a0_0 : Int) (a0_1 : Int) (a0_2 : Int) (a0_3 : Int) (a0_4 : Int) (a0_5 : Int) : Option (Int × Int × Int × Int × Int × Int) := some (a0_0, a0_1, a0_2, a0_3, a0_4, a0_5)
set_option maxHeartbeats 8000000 in
set_option maxRecDepth 100000 in
theorem laws_moment.calls (a0_0 : Int) (a0_1 : Int) (a0_2 : Int) (a0_3 : Int) (a0_4 : Int) (a0_5 : Int) (r1 : Int) (r2 : Int) (r3 : Int) (r4 : Int) (r5 : Int) (r6 : Int) (w : World) (h : laws_moment.f a0_0 a0_1 a0_2 a0_3 a0_4 a0_5 = some (r1, r2, r3, r4, r5, r6)) :
  Calls Tryz.prog 19 #[.agg #[.int .i64 a0_0, .int .i64 a0_1, .int .i64 a0_2, .int .i64 a0_3, .int .i64 a0_4, .int .i64 a0_5]] w fun e w' => e = .returned (.agg #[.int .i64 r1, .int .i64 r2, .int .i64 r3, .int .i64 r4, .int .i64 r5, .int .i64 r6]) ∧ Below w.heap.size w w' := by
 have hu26 := Tryz.underlying26
 have hu43 := Tryz.underlying43
 have HB := Aside0.mk (Below.refl w.heap.size w)
 have H : (some (a0_0, a0_1, a0_2, a0_3, a0_4, a0_5)) = some (r1, r2, r3, r4, r5, r6) := h
 clear h
 simp only [Option.some.injEq, Prod.mk.injEq] at H
 obtain ⟨rfl, rfl, rfl, rfl, rfl, rfl⟩ := H
 go_enter Tryz.func19, Tryz.ntmps19
 go_wp2_with (first | ((with_reducible refine gate_dst (N := 1) rfl ?_); refine box_event ?hg (N := 1) ?hd (cs := #[.int .i64 a0_0, .int .i64 a0_1, .int .i64 a0_2, .int .i64 a0_3, .int .i64 a0_4, .int .i64 a0_5]) (t := 26) ?hr ?_; (case hd => rfl); (case hg => rfl); (case hr => first | (go_simp; done) | (go_simp; rfl)); intro gb119 hg w2 hbox hb; have n0_ := Aside0.mk (below_step (by repeat (first | (with_reducible first | exact HB.out | apply below_alloc | apply pw_below_drewN | apply below_drew1) | exact HB.out)) hb); have n1_ := Aside0.mk (hbox); have n2_ := Aside0.mk ((by rw [hg]; exact (below_size (by repeat (first | (with_reducible first | exact HB.out | apply below_alloc | apply pw_below_drewN | apply below_drew1) | exact HB.out))) : w.heap.size ≤ gb119)); have n3_ := Aside0.mk ((by rw [hg]; exact (below_size (by repeat (first | (with_reducible first | exact HB.out | apply below_alloc | apply pw_below_drewN | apply below_drew1) | exact HB.out))) : w.heap.size ≤ gb119)); clear HB; have HB := n0_; have BK119 := n1_; have GW119 := n2_; have GE119 := n3_; clear n0_ n1_ n2_ n3_; clear hb hbox hg) | ((with_reducible refine gate_dst (N := 2) rfl ?_); refine box_event ?hg (N := 2) ?hd (cs := #[.int .i64 0, .int .i64 0, .int .i64 0, .int .i64 0, .int .i64 0, .int .i64 0]) (t := 43) ?hr ?_; (case hd => rfl); (case hg => rfl); (case hr => first | (go_simp; done) | (go_simp; rfl)); intro gb120 hg w3 hbox hb; have n0_ := Aside0.mk (blk_below (g := gb119) (o := .cells #[.int .i64 a0_0, .int .i64 a0_1, .int .i64 a0_2, .int .i64 a0_3, .int .i64 a0_4, .int .i64 a0_5] 26 (0, 0)) (by (with_reducible repeat (first | refine blk_drewN ?_ _ | refine blk_drew ?_ | refine blk_alloc ?_ _)); exact BK119.out) hb); have n1_ := Aside0.mk (below_step (by repeat (first | (with_reducible first | exact HB.out | apply below_alloc | apply pw_below_drewN | apply below_drew1 | refine below_set ?_ GE119.out) | exact HB.out)) hb); have n2_ := Aside0.mk (hbox); have n3_ := Aside0.mk ((by rw [hg]; exact (below_size (by repeat (first | (with_reducible first | exact HB.out | apply below_alloc | apply pw_below_drewN | apply below_drew1 | refine below_set ?_ GE119.out) | exact HB.out))) : w.heap.size ≤ gb120)); have n4_ := Aside0.mk ((by rw [hg]; exact (below_size (by repeat (first | (with_reducible first | exact HB.out | apply below_alloc | apply pw_below_drewN | apply below_drew1 | refine below_set ?_ GE119.out) | exact HB.out))) : w.heap.size ≤ gb120)); have n5_ := Aside0.mk ((by rw [hg]; exact Nat.ne_of_lt (blk_lt (g := gb119) (o := .cells #[.int .i64 a0_0, .int .i64 a0_1, .int .i64 a0_2, .int .i64 a0_3, .int .i64 a0_4, .int .i64 a0_5] 26 (0, 0)) (by (with_reducible repeat (first | refine blk_drewN ?_ _ | refine blk_drew ?_ | refine blk_alloc ?_ _)); exact BK119.out)) : gb119 ≠ gb120)); have n6_ := Aside0.mk ((by rw [hg]; exact Nat.ne_of_gt (blk_lt (g := gb119) (o := .cells #[.int .i64 a0_0, .int .i64 a0_1, .int .i64 a0_2, .int .i64 a0_3, .int .i64 a0_4, .int .i64 a0_5] 26 (0, 0)) (by (with_reducible repeat (first | refine blk_drewN ?_ _ | refine blk_drew ?_ | refine blk_alloc ?_ _)); exact BK119.out)) : gb120 ≠ gb119)); clear BK119; clear HB; have BK119 := n0_; have HB := n1_; have BK120 := n2_; have GW120 := n3_; have GE120 := n4_; have NB119_120 := n5_; have NB120_119 := n6_; clear n0_ n1_ n2_ n3_ n4_ n5_ n6_; clear hb hbox hg; have hnb4 := NB119_120.out; have hnc4 := NB120_119.out; have hcz5_0 : w3.cell? ⟨gb119, 0, none⟩ = some (.int .i64 a0_0) := (blk_cell BK119.out 0).trans rfl; have hcz5_1 : w3.cell? ⟨gb119, 1, none⟩ = some (.int .i64 a0_1) := (blk_cell BK119.out 1).trans rfl; have hcz5_2 : w3.cell? ⟨gb119, 2, none⟩ = some (.int .i64 a0_2) := (blk_cell BK119.out 2).trans rfl; have hcz5_3 : w3.cell? ⟨gb119, 3, none⟩ = some (.int .i64 a0_3) := (blk_cell BK119.out 3).trans rfl; have hcz5_4 : w3.cell? ⟨gb119, 4, none⟩ = some (.int .i64 a0_4) := (blk_cell BK119.out 4).trans rfl; have hcz5_5 : w3.cell? ⟨gb119, 5, none⟩ = some (.int .i64 a0_5) := (blk_cell BK119.out 5).trans rfl; have hfz5_0 := blk_frozen BK119.out 0; have hfz5_1 := blk_frozen BK119.out 1; have hfz5_2 := blk_frozen BK119.out 2; have hfz5_3 := blk_frozen BK119.out 3; have hfz5_4 := blk_frozen BK119.out 4; have hfz5_5 := blk_frozen BK119.out 5; have hcz6_0 : w3.cell? ⟨gb120, 0, none⟩ = some (.int .i64 0) := (blk_cell BK120.out 0).trans rfl; have hcz6_1 : w3.cell? ⟨gb120, 1, none⟩ = some (.int .i64 0) := (blk_cell BK120.out 1).trans rfl; have hcz6_2 : w3.cell? ⟨gb120, 2, none⟩ = some (.int .i64 0) := (blk_cell BK120.out 2).trans rfl; have hcz6_3 : w3.cell? ⟨gb120, 3, none⟩ = some (.int .i64 0) := (blk_cell BK120.out 3).trans rfl; have hcz6_4 : w3.cell? ⟨gb120, 4, none⟩ = some (.int .i64 0) := (blk_cell BK120.out 4).trans rfl; have hcz6_5 : w3.cell? ⟨gb120, 5, none⟩ = some (.int .i64 0) := (blk_cell BK120.out 5).trans rfl; have hfz6_0 := blk_frozen BK120.out 0; have hfz6_1 := blk_frozen BK120.out 1; have hfz6_2 := blk_frozen BK120.out 2; have hfz6_3 := blk_frozen BK120.out 3; have hfz6_4 := blk_frozen BK120.out 4; have hfz6_5 := blk_frozen BK120.out 5))
 refine bodyPost_ret (results_cell_row rfl _ _ gb120 43 #[.int .i64 a0_0, .int .i64 a0_1, .int .i64 a0_2, .int .i64 a0_3, .int .i64 a0_4, .int .i64 a0_5] (0, 0) _ rfl (by (with_reducible repeat (first | refine blk_drewN ?_ _ | refine blk_drew ?_ | refine blk_alloc ?_ _)); refine blk_put (cs := #[.int .i64 a0_0, .int .i64 a0_1, .int .i64 a0_2, .int .i64 a0_3, .int .i64 a0_4, .int .i64 0]) ?_ 5 _ rfl; (with_reducible repeat (first | refine blk_drewN ?_ _ | refine blk_drew ?_ | refine blk_alloc ?_ _)); refine blk_put (cs := #[.int .i64 a0_0, .int .i64 a0_1, .int .i64 a0_2, .int .i64 a0_3, .int .i64 0, .int .i64 0]) ?_ 4 _ rfl; (with_reducible repeat (first | refine blk_drewN ?_ _ | refine blk_drew ?_ | refine blk_alloc ?_ _)); refine blk_put (cs := #[.int .i64 a0_0, .int .i64 a0_1, .int .i64 a0_2, .int .i64 0, .int .i64 0, .int .i64 0]) ?_ 3 _ rfl; (with_reducible repeat (first | refine blk_drewN ?_ _ | refine blk_drew ?_ | refine blk_alloc ?_ _)); refine blk_put (cs := #[.int .i64 a0_0, .int .i64 a0_1, .int .i64 0, .int .i64 0, .int .i64 0, .int .i64 0]) ?_ 2 _ rfl; (with_reducible repeat (first | refine blk_drewN ?_ _ | refine blk_drew ?_ | refine blk_alloc ?_ _)); refine blk_put (cs := #[.int .i64 a0_0, .int .i64 0, .int .i64 0, .int .i64 0, .int .i64 0, .int .i64 0]) ?_ 1 _ rfl; (with_reducible repeat (first | refine blk_drewN ?_ _ | refine blk_drew ?_ | refine blk_alloc ?_ _)); refine blk_put (cs := #[.int .i64 0, .int .i64 0, .int .i64 0, .int .i64 0, .int .i64 0, .int .i64 0]) ?_ 0 _ rfl; (with_reducible repeat (first | refine blk_drewN ?_ _ | refine blk_drew ?_ | refine blk_alloc ?_ _)); exact BK120.out) Tryz.underlying43 rfl (by kernel_rfl)) rfl ?_
 exact ⟨by first | rfl | (simp [errW_none, errW_some] <;> rfl) | (simp [*, errW_none, errW_some] <;> rfl), by repeat (first | (with_reducible first | exact HB.out | apply below_alloc | apply pw_below_drewN | apply below_drew1 | refine below_set ?_ GE119.out | refine below_set ?_ GE120.out) | exact HB.out)⟩
end Go.Proofs.YtemgofomhjabpaaGreatDoor.Core
namespace Go.Proofs.YtemgofomhjabpaaGreatDoor.Core
open Go.RowKit
theorem no_mono : (bits BinOp.and IntKind.u64 0 9223372036854775808 != 0) = false := by kernel_rfl
theorem ret_i64 {a b : Int} (h : a = b) : Ending.returned (.int .i64 a) = .returned (.int .i64 b) := by rw [h]
theorem ret_u64 {a b : Int} (h : a = b) : Ending.returned (.int .u64 a) = .returned (.int .u64 b) := by rw [h]
theorem sec_any (g : Nat) (x : Int) (w : World) (h0 : w.cell? ⟨g, 0, none⟩ = some (.int .u64 0)) (h1 : w.cell? ⟨g, 1, none⟩ = some (.int .i64 x)) :
  Calls Tryz.prog 78 #[.pointer (some ⟨g, 0, none⟩)] w fun e w' => e = .returned (.int .i64 x) ∧ w = w' := by
 have hm := no_mono
 go_enter Tryz.func78, Tryz.ntmps78
 go_wp2
 go_ret
 exact ⟨rfl, rfl⟩
theorem unixSec_any (g : Nat) (x : Int) (w : World) (hx0 : 62700000000 ≤ x) (hx1 : x ≤ 66100000000) (h0 : w.cell? ⟨g, 0, none⟩ = some (.int .u64 0)) (h1 : w.cell? ⟨g, 1, none⟩ = some (.int .i64 x)) :
  Calls Tryz.prog 144 #[.pointer (some ⟨g, 0, none⟩)] w fun e w' => e = .returned (.int .i64 (x - 62135596800)) ∧ w = w' := by
 go_enter Tryz.func144, Tryz.ntmps144
 go_wp2_with (go_at_call 78; refine (sec_any g x _ h0 h1).mono ?_; rintro e w' ⟨rfl, rfl⟩)
 go_ret
 exact ⟨ret_i64 (by omega), rfl⟩
theorem stripMono_any (g : Nat) (w : World) (h0 : w.cell? ⟨g, 0, none⟩ = some (.int .u64 0)) :
  Calls Tryz.prog 69 #[.pointer (some ⟨g, 0, none⟩)] w fun e w' => e = .returned (.tuple #[]) ∧ w = w' := by
 have hm := no_mono
 go_enter Tryz.func69, Tryz.ntmps69
 go_wp2
 go_end0
 exact ⟨rfl, rfl⟩
def utcCells : Array Value := #[.bool true, .string ⟨#[85, 84, 67]⟩, .slice none 0 0, .slice none 0 0, .string ⟨#[]⟩, .int .i64 0, .int .i64 0, .pointer none]
def IsUtc (w : World) (b : Nat) : Prop := w.heap[b]? = some (.cells utcCells 127)
theorem IsUtc.cell {w : World} {b : Nat} (h : IsUtc w b) (j : Nat) : w.cell? ⟨b, j, none⟩ = utcCells[j]? := by
 unfold IsUtc at h; simp [World.cell?, h]
theorem utc_any (w : World) :
  Calls Tryz.prog 44 #[] w fun e w' => e = .returned (.pointer (some ⟨w.heap.size, 0, none⟩)) ∧ w.alloc (.cells utcCells 127) = w' := by
 go_enter Tryz.func44, Tryz.ntmps44
 go_wp2
 go_ret
 exact ⟨rfl, rfl⟩
theorem get_nil (w : World) :
  Calls Tryz.prog 67 #[.pointer none] w fun e w' => e = .returned (.pointer (some ⟨w.heap.size, 0, none⟩)) ∧ w.alloc (.cells utcCells 127) = w' := by
 go_enter Tryz.func67, Tryz.ntmps67
 go_wp2_with (go_at_call 44; refine (utc_any _).mono ?_; rintro e w' ⟨rfl, rfl⟩)
 go_ret
 exact ⟨rfl, rfl⟩
theorem get_some (b : Nat) (w : World) :
  Calls Tryz.prog 67 #[.pointer (some ⟨b, 0, none⟩)] w fun e w' => e = .returned (.pointer (some ⟨b, 0, none⟩)) ∧ w = w' := by
 go_enter Tryz.func67, Tryz.ntmps67
 go_wp2
 go_ret
 exact ⟨rfl, rfl⟩
theorem unixTime_any (s : Int) (w : World) (h0 : 500000000 ≤ s) (h1 : s ≤ 4000000000) :
  Calls Tryz.prog 54 #[.int .i64 s, .int .i32 0] w fun e w' => e = .returned (.agg #[.int .u64 0, .int .i64 (s + 62135596800), .pointer none]) ∧ Below w.heap.size w w' := by
 go_enter Tryz.func54, Tryz.ntmps54
 go_wp2
 exact bodyPost_ret (v := .agg #[.int .u64 0, .int .i64 (s + 62135596800), .pointer none]) (by simp [results, Tryz.results54, go_sem]) rfl ⟨rfl, (Below.refl _ _).alloc (Nat.le_refl _) _⟩
theorem setLoc_any (g b : Nat) (x : Int) (w : World) (hg : w.heap[g]? = some (.cells #[.int .u64 0, .int .i64 x, .pointer none] 79)) (hb : w.cell? ⟨b, 0, none⟩ = some (.bool true)) :
  Calls Tryz.prog 55 #[.pointer (some ⟨g, 0, none⟩), .pointer (some ⟨b, 0, none⟩)] w fun e w' => e = .returned (.tuple #[]) ∧ w.setCell ⟨g, 2, none⟩ (.pointer none) = w' := by
 have h0 : w.cell? ⟨g, 0, none⟩ = some (.int .u64 0) := by simp [World.cell?, hg]
 have h2 : w.cell? ⟨g, 2, none⟩ = some (.pointer none) := by simp [World.cell?, hg]
 have f2 : w.frozen? ⟨g, 2, none⟩ = false := by simp [World.frozen?, hg]
 clear hg
 go_enter Tryz.func55, Tryz.ntmps55
 go_wp2_with (go_at_call 69; refine (stripMono_any g _ h0).mono ?_; rintro e w' ⟨rfl, rfl⟩)
 go_end0
 exact ⟨rfl, rfl⟩
set_option maxRecDepth 100000 in
theorem lookup_any (b : Nat) (s : Int) (w : World) (hb : w.cell? ⟨b, 2, none⟩ = some (.slice none 0 0)) :
  Calls Tryz.prog 53 #[.pointer (some ⟨b, 0, none⟩), .int .i64 s] w fun e w' => e = .returned (.tuple #[.string ⟨#[85, 84, 67]⟩, .int .i64 0, .int .i64 (-9223372036854775808), .int .i64 9223372036854775807, .bool false]) ∧ w = w' := by
 go_enter Tryz.func53, Tryz.ntmps53
 go_wp2_with (go_at_call 67; refine (get_some b _).mono ?_; rintro e w' ⟨rfl, rfl⟩)
 refine bodyPost_ret (v := .tuple #[.string ⟨#[85, 84, 67]⟩, .int .i64 0, .int .i64 (-9223372036854775808), .int .i64 9223372036854775807, .bool false]) (by simp [results, Tryz.results53, go_sem]) rfl ⟨rfl, rfl⟩
theorem alloc_new (w : World) (o : Obj) : (w.alloc o).heap[w.heap.size]? = some o := heap_alloc_new w o
theorem isUtc_new (w : World) (n : Nat) (h : n = w.heap.size) : IsUtc (w.alloc (.cells utcCells 127)) n := by subst h; exact alloc_new _ _
theorem utc0 : utcCells[0]? = some (.bool true) := rfl
set_option maxRecDepth 100000 in
theorem absSec_any (x : Int) (w : World) (hx0 : 62700000000 ≤ x) (hx1 : x ≤ 66100000000) :
  Calls Tryz.prog 124 #[.agg #[.int .u64 0, .int .i64 x, .pointer none]] w fun e w' => e = .returned (.int .u64 (x + 9223371966606163200)) ∧ Below w.heap.size w w' := by
 have hu := utc0
 go_enter Tryz.func124, Tryz.ntmps124
 go_wp2_with (first | (go_at_call 67; refine (get_nil _).mono ?_; rintro e w' ⟨rfl, rfl⟩) | (go_at_call 144; refine (unixSec_any _ x _ hx0 hx1 (by go_simp) (by go_simp)).mono ?_; rintro e w' ⟨rfl, rfl⟩))
 go_ret
 exact ⟨ret_u64 (by first | omega | (simp; omega)), (((Below.refl _ _).alloc (Nat.le_refl _) _).alloc (by simp) _)⟩
theorem location_any (x : Int) (w : World) :
  Calls Tryz.prog 115 #[.agg #[.int .u64 0, .int .i64 x, .pointer none]] w fun e w' => ∃ b, e = .returned (.pointer (some ⟨b, 0, none⟩)) ∧ w.heap.size ≤ b ∧ IsUtc w' b ∧ Below w.heap.size w w' := by
 go_enter Tryz.func115, Tryz.ntmps115
 go_wp2_with (go_at_call 44; refine (utc_any _).mono ?_; rintro e w' ⟨rfl, rfl⟩)
 go_ret
 exact ⟨_, rfl, by simp, isUtc_new _ _ (by simp), (((Below.refl _ _).alloc (Nat.le_refl _) _).alloc (by simp) _)⟩
end Go.Proofs.YtemgofomhjabpaaGreatDoor.Core
namespace Go.Proofs.YtemgofomhjabpaaGreatDoor.Core
open Go.RowKit Go.Proofs.YtemgofomhjabpaaGreatDoorW.PrintWords Go.Proofs.YtemgofomhjabpaaGreatDoorW.PrintLast Go.Proofs.YtemgofomhjabpaaGreatDoorW.PrintMore
attribute [local go_sem] max2_int min2_int max_two min_two max_three min_three max_four min_four   -- for this text's walks alone
set_option linter.unusedVariables false
set_option linter.unusedSimpArgs false
def gotime_dateToAbsDays.f (a0 : Int) (a1 : Int) (a2 : Int) : Option (Int) := if ((a1) % 4294967296) < 3 then (some (IntKind.u64.wrap ((IntKind.u64.wrap (Int.tdiv (IntKind.u64.wrap (146097 * (IntKind.u64.wrap (Int.tdiv (IntKind.u64.wrap ((IntKind.u64.wrap ((IntKind.u64.wrap (a0)) - 1)) + 292277022400)) 100)))) 4)) + (IntKind.u64.wrap (wrap64 ((wrap64 ((((((1461 * ((Int.tmod (IntKind.u64.wrap ((IntKind.u64.wrap ((IntKind.u64.wrap (a0)) - 1)) + 292277022400)) 100) % 4294967296)) % 4294967296) / 4) + (((((979 * ((((a1) % 4294967296) + (12 * 1)) % 4294967296)) % 4294967296) - 2919) % 4294967296) / 32)) % 4294967296) + a2)) - 1)))))) else (some (IntKind.u64.wrap ((IntKind.u64.wrap (Int.tdiv (IntKind.u64.wrap (146097 * (IntKind.u64.wrap (Int.tdiv (IntKind.u64.wrap ((IntKind.u64.wrap ((IntKind.u64.wrap (a0)) - 0)) + 292277022400)) 100)))) 4)) + (IntKind.u64.wrap (wrap64 ((wrap64 ((((((1461 * ((Int.tmod (IntKind.u64.wrap ((IntKind.u64.wrap ((IntKind.u64.wrap (a0)) - 0)) + 292277022400)) 100) % 4294967296)) % 4294967296) / 4) + (((((979 * (((a1) % 4294967296) + (12 * 0))) % 4294967296) - 2919) % 4294967296) / 32)) % 4294967296) + a2)) - 1))))))
set_option maxHeartbeats 8000000 in
set_option maxRecDepth 100000 in
theorem gotime_dateToAbsDays.calls (a0 : Int) (a1 : Int) (a2 : Int) (r : Int) (w : World) (h : gotime_dateToAbsDays.f a0 a1 a2 = some r) :
  Calls Tryz.prog 52 #[.int .i64 a0, .int .i64 a1, .int .i64 a2] w fun e w' => e = .returned (.int .u64 r) ∧ Drawn0 w w' := by
 have H : (if ((a1) % 4294967296) < 3 then (some (IntKind.u64.wrap ((IntKind.u64.wrap (Int.tdiv (IntKind.u64.wrap (146097 * (IntKind.u64.wrap (Int.tdiv (IntKind.u64.wrap ((IntKind.u64.wrap ((IntKind.u64.wrap (a0)) - 1)) + 292277022400)) 100)))) 4)) + (IntKind.u64.wrap (wrap64 ((wrap64 ((((((1461 * ((Int.tmod (IntKind.u64.wrap ((IntKind.u64.wrap ((IntKind.u64.wrap (a0)) - 1)) + 292277022400)) 100) % 4294967296)) % 4294967296) / 4) + (((((979 * ((((a1) % 4294967296) + (12 * 1)) % 4294967296)) % 4294967296) - 2919) % 4294967296) / 32)) % 4294967296) + a2)) - 1)))))) else (some (IntKind.u64.wrap ((IntKind.u64.wrap (Int.tdiv (IntKind.u64.wrap (146097 * (IntKind.u64.wrap (Int.tdiv (IntKind.u64.wrap ((IntKind.u64.wrap ((IntKind.u64.wrap (a0)) - 0)) + 292277022400)) 100)))) 4)) + (IntKind.u64.wrap (wrap64 ((wrap64 ((((((1461 * ((Int.tmod (IntKind.u64.wrap ((IntKind.u64.wrap ((IntKind.u64.wrap (a0)) - 0)) + 292277022400)) 100) % 4294967296)) % 4294967296) / 4) + (((((979 * (((a1) % 4294967296) + (12 * 0))) % 4294967296) - 2919) % 4294967296) / 32)) % 4294967296) + a2)) - 1))))))) = some r := h
 clear h
 by_cases c4 : ((a1) % 4294967296) < 3
 ·rw [if_pos c4] at H
  have c4b0 : decide (((a1) % 4294967296) < 3) = true := decide_eq_true c4
  clear c4
  obtain rfl := Option.some.inj H
  go_enter Tryz.func52, Tryz.ntmps52
  go_wp2
  go_ret
  exact ⟨by first | rfl | (simp; done) | (simp [*]; done), by repeat (first | exact Drawn0.refl _ | apply Drawn0.step)⟩
 ·rw [if_neg c4] at H
  have c4b0 : decide (((a1) % 4294967296) < 3) = false := decide_eq_false c4
  clear c4
  obtain rfl := Option.some.inj H
  go_enter Tryz.func52, Tryz.ntmps52
  go_wp2
  go_ret
  exact ⟨by first | rfl | (simp; done) | (simp [*]; done), by repeat (first | exact Drawn0.refl _ | apply Drawn0.step)⟩
def bits_Mul32.f (a0 : Int) (a1 : Int) : Option (Int × Int) := some (((IntKind.u64.wrap ((IntKind.u64.wrap (a0)) * (IntKind.u64.wrap (a1)))) / 4294967296) % 4294967296, (IntKind.u64.wrap ((IntKind.u64.wrap (a0)) * (IntKind.u64.wrap (a1)))) % 4294967296)
set_option maxHeartbeats 8000000 in
set_option maxRecDepth 100000 in
theorem bits_Mul32.calls (a0 : Int) (a1 : Int) (r1 : Int) (r2 : Int) (w : World) (h : bits_Mul32.f a0 a1 = some (r1, r2)) :
  Calls Tryz.prog 145 #[.int .u32 a0, .int .u32 a1] w fun e w' => e = .returned (.tuple #[.int .u32 r1, .int .u32 r2]) ∧ Drawn0 w w' := by
 have H : (some (((IntKind.u64.wrap ((IntKind.u64.wrap (a0)) * (IntKind.u64.wrap (a1)))) / 4294967296) % 4294967296, (IntKind.u64.wrap ((IntKind.u64.wrap (a0)) * (IntKind.u64.wrap (a1)))) % 4294967296)) = some (r1, r2) := h
 clear h
 simp only [Option.some.injEq, Prod.mk.injEq] at H
 obtain ⟨rfl, rfl⟩ := H
 go_enter Tryz.func145, Tryz.ntmps145
 go_wp2
 go_ret2
 exact ⟨by first | rfl | (simp; done) | (simp [*]; done), by repeat (first | exact Drawn0.refl _ | apply Drawn0.step)⟩
def gotime_absDays_split.f (a0 : Int) : Option (Int × Int × Int) := (bits_Mul32.f 2939745 (Go.bits .or .u32 ((Int.tmod (IntKind.u64.wrap ((IntKind.u64.wrap (4 * a0)) + 3)) 146097) % 4294967296) 3)).bind fun bt564 => (some (IntKind.u64.wrap (Int.tdiv (IntKind.u64.wrap ((IntKind.u64.wrap (4 * a0)) + 3)) 146097), wrap64 (bt564.1), ((Int.tdiv bt564.2 2939745) % 4294967296) / 4))
set_option maxHeartbeats 8000000 in
set_option maxRecDepth 100000 in
theorem gotime_absDays_split.calls (a0 : Int) (r1 : Int) (r2 : Int) (r3 : Int) (w : World) (h : gotime_absDays_split.f a0 = some (r1, r2, r3)) :
  Calls Tryz.prog 126 #[.int .u64 a0] w fun e w' => e = .returned (.tuple #[.int .u64 r1, .int .i64 r2, .int .i64 r3]) ∧ Drawn0 w w' := by
 have H : ((bits_Mul32.f 2939745 (Go.bits .or .u32 ((Int.tmod (IntKind.u64.wrap ((IntKind.u64.wrap (4 * a0)) + 3)) 146097) % 4294967296) 3)).bind fun bt564 => (some (IntKind.u64.wrap (Int.tdiv (IntKind.u64.wrap ((IntKind.u64.wrap (4 * a0)) + 3)) 146097), wrap64 (bt564.1), ((Int.tdiv bt564.2 2939745) % 4294967296) / 4))) = some (r1, r2, r3) := h
 clear h
 replace H := Option.bind_eq_some_iff.mp H
 obtain ⟨⟨t564, t565⟩, A20, H⟩ := H
 replace H : (some (IntKind.u64.wrap (Int.tdiv (IntKind.u64.wrap ((IntKind.u64.wrap (4 * a0)) + 3)) 146097), wrap64 (t564), ((Int.tdiv t565 2939745) % 4294967296) / 4)) = some (r1, r2, r3) := H
 have A2 := Aside0.mk A20
 clear A20
 simp only [Option.some.injEq, Prod.mk.injEq] at H
 obtain ⟨rfl, rfl, rfl⟩ := H
 go_enter Tryz.func126, Tryz.ntmps126
 go_wp2_with (first | ((with_reducible refine gate_callee (f := 145) rfl ?_); refine goesL_ (some 20) rfl rfl Tryz.func145 (by kernel_rfl) rfl #[.int .u32 2939745, .int .u32 (Go.bits .or .u32 ((Int.tmod (IntKind.u64.wrap ((IntKind.u64.wrap (4 * a0)) + 3)) 146097) % 4294967296) 3)] rfl (by (try simp only [List.map_toArray, List.map_cons, List.map_nil]); first | done | rfl | (simp only [List.length_drop, List.length_take]; rfl)) ?_; (with_reducible refine (bits_Mul32.calls 2939745 (Go.bits .or .u32 ((Int.tmod (IntKind.u64.wrap ((IntKind.u64.wrap (4 * a0)) + 3)) 146097) % 4294967296) 3) t564 t565 _ A2.out).mono ?_); rintro e w' ⟨rfl, ⟨nd, rfl⟩⟩; refine ⟨_, rfl, ?_⟩))
 go_ret3
 exact ⟨by first | rfl | (simp; done) | (simp [*]; done), by repeat (first | exact Drawn0.refl _ | apply Drawn0.step)⟩
def gotime_absYday_split.f (a0 : Int) : Option (Int × Int) := some (((((2141 * ((a0) % 4294967296)) % 4294967296) + 197913) % 4294967296) / 65536, 1 + ((Int.tdiv (Go.bits .and .u32 ((((2141 * ((a0) % 4294967296)) % 4294967296) + 197913) % 4294967296) 65535) 2141) % 4294967296))
set_option maxHeartbeats 8000000 in
set_option maxRecDepth 100000 in
theorem gotime_absYday_split.calls (a0 : Int) (r1 : Int) (r2 : Int) (w : World) (h : gotime_absYday_split.f a0 = some (r1, r2)) :
  Calls Tryz.prog 127 #[.int .i64 a0] w fun e w' => e = .returned (.tuple #[.int .i64 r1, .int .i64 r2]) ∧ Drawn0 w w' := by
 have H : (some (((((2141 * ((a0) % 4294967296)) % 4294967296) + 197913) % 4294967296) / 65536, 1 + ((Int.tdiv (Go.bits .and .u32 ((((2141 * ((a0) % 4294967296)) % 4294967296) + 197913) % 4294967296) 65535) 2141) % 4294967296))) = some (r1, r2) := h
 clear h
 simp only [Option.some.injEq, Prod.mk.injEq] at H
 obtain ⟨rfl, rfl⟩ := H
 go_enter Tryz.func127, Tryz.ntmps127
 go_wp2
 go_ret2
 exact ⟨by first | rfl | (simp; done) | (simp [*]; done), by repeat (first | exact Drawn0.refl _ | apply Drawn0.step)⟩
def gotime_absYday_janFeb.f (a0 : Int) : Option (Int) := if a0 ≥ 306 then (some 1) else (some 0)
set_option maxHeartbeats 8000000 in
set_option maxRecDepth 100000 in
theorem gotime_absYday_janFeb.calls (a0 : Int) (r : Int) (w : World) (h : gotime_absYday_janFeb.f a0 = some r) :
  Calls Tryz.prog 137 #[.int .i64 a0] w fun e w' => e = .returned (.int .i64 r) ∧ Drawn0 w w' := by
 have H : (if a0 ≥ 306 then (some 1) else (some 0)) = some r := h
 clear h
 by_cases c2 : a0 ≥ 306
 ·rw [if_pos c2] at H
  have c2b0 : decide (306 ≤ a0) = true := decide_eq_true c2
  clear c2
  obtain rfl := Option.some.inj H
  go_enter Tryz.func137, Tryz.ntmps137
  go_wp2
  go_ret
  exact ⟨by first | rfl | (simp; done) | (simp [*]; done), by repeat (first | exact Drawn0.refl _ | apply Drawn0.step)⟩
 ·rw [if_neg c2] at H
  have c2b0 : decide (306 ≤ a0) = false := decide_eq_false c2
  clear c2
  obtain rfl := Option.some.inj H
  go_enter Tryz.func137, Tryz.ntmps137
  go_wp2
  go_ret
  exact ⟨by first | rfl | (simp; done) | (simp [*]; done), by repeat (first | exact Drawn0.refl _ | apply Drawn0.step)⟩
def gotime_absCentury_year.f (a0 : Int) (a1 : Int) (a2 : Int) : Option (Int) := some (wrap64 ((wrap64 ((wrap64 (IntKind.u64.wrap ((IntKind.u64.wrap (a0 * 100)) - 292277022400))) + a1)) + a2))
set_option maxHeartbeats 8000000 in
set_option maxRecDepth 100000 in
theorem gotime_absCentury_year.calls (a0 : Int) (a1 : Int) (a2 : Int) (r : Int) (w : World) (h : gotime_absCentury_year.f a0 a1 a2 = some r) :
  Calls Tryz.prog 138 #[.int .u64 a0, .int .i64 a1, .int .i64 a2] w fun e w' => e = .returned (.int .i64 r) ∧ Drawn0 w w' := by
 have H : (some (wrap64 ((wrap64 ((wrap64 (IntKind.u64.wrap ((IntKind.u64.wrap (a0 * 100)) - 292277022400))) + a1)) + a2))) = some r := h
 clear h
 obtain rfl := Option.some.inj H
 go_enter Tryz.func138, Tryz.ntmps138
 go_wp2
 go_ret
 exact ⟨by first | rfl | (simp; done) | (simp [*]; done), by repeat (first | exact Drawn0.refl _ | apply Drawn0.step)⟩
def gotime_absMonth_month.f (a0 : Int) (a1 : Int) : Option (Int) := some (wrap64 (a0 - (wrap64 (a1 * 12))))
set_option maxHeartbeats 8000000 in
set_option maxRecDepth 100000 in
theorem gotime_absMonth_month.calls (a0 : Int) (a1 : Int) (r : Int) (w : World) (h : gotime_absMonth_month.f a0 a1 = some r) :
  Calls Tryz.prog 139 #[.int .i64 a0, .int .i64 a1] w fun e w' => e = .returned (.int .i64 r) ∧ Drawn0 w w' := by
 have H : (some (wrap64 (a0 - (wrap64 (a1 * 12))))) = some r := h
 clear h
 obtain rfl := Option.some.inj H
 go_enter Tryz.func139, Tryz.ntmps139
 go_wp2
 go_ret
 exact ⟨by first | rfl | (simp; done) | (simp [*]; done), by repeat (first | exact Drawn0.refl _ | apply Drawn0.step)⟩
def gotime_absDays_weekday.f (a0 : Int) : Option (Int) := some (wrap64 (Int.tmod (IntKind.u64.wrap (a0 + 3)) 7))
set_option maxHeartbeats 8000000 in
set_option maxRecDepth 100000 in
theorem gotime_absDays_weekday.calls (a0 : Int) (r : Int) (w : World) (h : gotime_absDays_weekday.f a0 = some r) :
  Calls Tryz.prog 146 #[.int .u64 a0] w fun e w' => e = .returned (.int .i64 r) ∧ Drawn0 w w' := by
 have H : (some (wrap64 (Int.tmod (IntKind.u64.wrap (a0 + 3)) 7))) = some r := h
 clear h
 obtain rfl := Option.some.inj H
 go_enter Tryz.func146, Tryz.ntmps146
 go_wp2
 go_ret
 exact ⟨by first | rfl | (simp; done) | (simp [*]; done), by repeat (first | exact Drawn0.refl _ | apply Drawn0.step)⟩
def gotime_absSeconds_days.f (a0 : Int) : Option (Int) := some (IntKind.u64.wrap (Int.tdiv a0 86400))
set_option maxHeartbeats 8000000 in
set_option maxRecDepth 100000 in
theorem gotime_absSeconds_days.calls (a0 : Int) (r : Int) (w : World) (h : gotime_absSeconds_days.f a0 = some r) :
  Calls Tryz.prog 125 #[.int .u64 a0] w fun e w' => e = .returned (.int .u64 r) ∧ Drawn0 w w' := by
 have H : (some (IntKind.u64.wrap (Int.tdiv a0 86400))) = some r := h
 clear h
 obtain rfl := Option.some.inj H
 go_enter Tryz.func125, Tryz.ntmps125
 go_wp2
 go_ret
 exact ⟨by first | rfl | (simp; done) | (simp [*]; done), by repeat (first | exact Drawn0.refl _ | apply Drawn0.step)⟩
end Go.Proofs.YtemgofomhjabpaaGreatDoor.Core
namespace Go.Proofs.YtemgofomhjabpaaGreatDoor.Core
open Go.RowKit Go.Proofs.YtemgofomhjabpaaGreatDoorW.PrintWords
def B (l : List UInt8) : ByteArray := ⟨l.toArray⟩
theorem B_size (l : List UInt8) : (B l).size = l.length := by simp [B, ByteArray.size]
theorem B_data (l : List UInt8) : (B l).data.toList = l := by simp [B]
theorem B_list (l : List UInt8) : (B l).toList = l := by rw [Lib.toList_data, B_data]
theorem B_of (s : ByteArray) : B s.data.toList = s := by cases s; simp [B]
theorem B_inj {l m : List UInt8} (h : B l = B m) : l = m := by
 have := congrArg (fun s : ByteArray => s.data.toList) h
 simpa [B_data] using this
theorem B_ext_iff {s t : ByteArray} (h : s.data.toList = t.data.toList) : s = t := by rw [← B_of s, ← B_of t, h]
theorem B_app (l m : List UInt8) : B l ++ B m = B (l ++ m) := by
 apply B_ext_iff
 rw [B_data, ByteArray.data_append, Array.toList_append, B_data, B_data]
theorem B_cut (l : List UInt8) (i j : Nat) : (B l).extract i j = B ((l.drop i).take (j - i)) := by
 apply B_ext_iff
 rw [Lib.extract_data, B_data, B_data]
theorem B_bytesOf (l : List UInt8) : bytesOf (B l) = l.map fun b => (b.toNat : Int) := by rw [bytesOf, B_data]
theorem strOfNums_B (l : List UInt8) : strOfNums (l.map fun b => (b.toNat : Int)) = B l := by
 unfold strOfNums B
 congr 2
 rw [List.map_map]
 conv => rhs; rw [← List.map_id l]
 apply List.map_congr_left
 intro b _
 simp
theorem bt_B (l : List UInt8) (i : Int) (h0 : 0 ≤ i) (h : i < (l.length : Int)) : bt (B l) i = ((l[i.toNat]'(by omega)).toNat : Int) := by
 unfold bt
 rw [dif_pos (by rw [B_size]; omega)]
 have : (B l)[i.toNat]'(by rw [B_size]; omega) = l[i.toNat]'(by omega) := by simp [B, ByteArray.getElem_eq_getElem_data]
 rw [this]
theorem bt_B_at (l : List UInt8) (i : Nat) (h : i < l.length) : bt (B l) (i : Int) = ((l[i]).toNat : Int) := by
 rw [bt_B l _ (by omega) (by omega)]; simp
theorem wrap64_id {i : Int} (h0 : -9223372036854775808 ≤ i) (h1 : i ≤ 9223372036854775807) : wrap64 i = i := by unfold wrap64; omega
theorem wrap64_nat (i : Nat) (h : i < 9223372036854775807) : wrap64 ((i : Int) + 1) = ((i + 1 : Nat) : Int) := by rw [wrap64_id (by omega) (by omega)]; rfl
theorem rd_at (l : List Int) (i : Nat) : rd l (i : Int) = l.getD i 0 := by simp [rd]
theorem Ev.round {α : Type} {g f : Nat → Option α} {r : α} (k : Ev f r) (h : ∀ k, g (k + 1) = f k) : Ev g r := Ev.step h k
theorem Ev.eq {α : Type} {g : Nat → Option α} {r : α} (r' : α) (h : Ev g r') (e : r' = r) : Ev g r := e ▸ h
theorem Ev.done {α : Type} {g : Nat → Option α} {r : α} (h : ∀ k, g (k + 1) = some r) : Ev g r := Ev.step h (Ev.now r)
theorem Ev.const {α : Type} {o : Option α} {r : α} (h : o = some r) : Ev (fun _ => o) r := ⟨0, fun _ _ => h⟩
def decN (n : Nat) : List UInt8 := if _h : n < 10 then [UInt8.ofNat (48 + n)] else decN (n / 10) ++ [UInt8.ofNat (48 + n % 10)]
termination_by n
theorem decN_lt (n : Nat) (h : n < 10) : decN n = [UInt8.ofNat (48 + n)] := by rw [decN, dif_pos h]
theorem decN_ge (n : Nat) (h : ¬ n < 10) : decN n = decN (n / 10) ++ [UInt8.ofNat (48 + n % 10)] := by rw [decN, dif_neg h]
theorem decN_digit (n : Nat) : ∀ b ∈ decN n, 48 ≤ b.toNat ∧ b.toNat ≤ 57 := by
 induction n using decN.induct with
 | case1 n h =>
  rw [decN_lt n h]
  intro b hb
  rw [List.mem_singleton] at hb
  subst hb
  have : (48 + n) % 256 = 48 + n := by omega
  simp [this]
  omega
 | case2 n h ih =>
  rw [decN_ge n h]
  intro b hb
  rcases List.mem_append.1 hb with hb | hb
  ·exact ih b hb
  ·rw [List.mem_singleton] at hb
   subst hb
   have : (48 + n % 10) % 256 = 48 + n % 10 := by omega
   simp [this]
   omega
theorem decN_ne (n : Nat) : decN n ≠ [] := by
 by_cases h : n < 10
 ·rw [decN_lt n h]; simp
 ·rw [decN_ge n h]; simp
theorem decN_length (n : Nat) (m : Nat) (h : n < 10 ^ (m + 1)) : (decN n).length ≤ m + 1 := by
 induction m generalizing n with
 | zero => rw [decN_lt n (by simpa using h)]; simp
 | succ m ih =>
  by_cases h10 : n < 10
  ·rw [decN_lt n h10]; simp
  ·rw [decN_ge n h10]
   have := ih (n / 10) (by rw [Nat.div_lt_iff_lt_mul (by omega)]; rw [Nat.pow_succ] at h; exact h)
   simp
   omega
end Go.Proofs.YtemgofomhjabpaaGreatDoor.Core
